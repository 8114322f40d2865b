/-
  zzRecordsFit: what its yes says. By an AI agent.
-/
import Derived.Test.Qxb6603657aClone
namespace Go.Proofs.Qxb6603657a
set_option linter.unusedVariables false
open Go.RowKit

/-- The bytes of the first k strings. -/
def sz (K : Nat → ByteArray) : Nat → Nat
  | 0 => 0
  | k + 1 => sz K k + (K k).size
theorem sz_succ (K : Nat → ByteArray) (k : Nat) : sz K (k + 1) = sz K k + (K k).size := rfl

/-- It said no; or it said yes, and p holds. -/
def Says (e : Ending) (p : Prop) : Prop := e = .returned (.bool false) ∨ (e = .returned (.bool true) ∧ p)
theorem says_no {p : Prop} : Says (.returned (.bool false)) p := .inl rfl
theorem says_yes {p : Prop} (h : p) : Says (.returned (.bool true)) p := .inr ⟨rfl, h⟩

/-- What zzRecordsFit asks. -/
structure Fit (n : Nat) (K R A : Nat → ByteArray) (D : Nat → Bool) (base lead fc : Int) : Prop where
  few : n * 57 ≤ 1048576
  small : sz K n + sz R n + sz A n ≤ 1048576
  lead0 : 0 ≤ lead
  lead1 : lead < 512
  fc0 : 0 ≤ fc
  room : base + lead + n ≤ 18446744073709551615
  front : 0 < n → D 0 = false

set_option maxRecDepth 100000 in
set_option maxHeartbeats 2000000 in
theorem fit_any (B : Nat) (a0 a1 a2 a3 a4 : Option Addr) (n0 n1 n2 n3 n4 c0 c1 c2 c3 c4 : Nat) (K R A : Nat → ByteArray) (D : Nat → Bool) (base lead fc : Int) (w : World)
    (_m0 : n0 ≤ 65536) (_m1 : n1 ≤ 65536) (_m2 : n2 ≤ 65536) (_m3 : n3 ≤ 65536) (_m4 : n4 ≤ 65536)
    (_hb0 : 0 ≤ base) (_hb1 : base ≤ 18446744073709551615) (hl0 : -9223372036854775808 ≤ lead) (hl1 : lead ≤ 9223372036854775807)
    (hK : Rd B w a0 n0 fun i => .string (K i)) (hR : Rd B w a1 n1 fun i => .string (R i)) (hA : Rd B w a2 n2 fun i => .string (A i)) (hD : Rd B w a4 n4 fun i => .bool (D i)) :
    Calls Try.prog 17 #[.slice a0 n0 c0, .slice a1 n1 c1, .slice a2 n2 c2, .slice a3 n3 c3, .slice a4 n4 c4, .int .u64 base, .int .i64 lead, .int .i64 fc] w fun e w' =>
      Says e (n1 = n0 ∧ n2 = n0 ∧ n3 = n0 ∧ n4 = n0 ∧ Fit n0 K R A D base lead fc) ∧ w' = w := by
  go_enter Try.func17, Try.ntmps17
  go_wp2
  · go_ret; exact ⟨says_no, rfl⟩
  have t0 : 16 * (n0 : Int) + 16 * n1 + 16 * n2 + 8 * n3 + n4 ≤ 1048576 := by assumption
  go_loop [17, 18] (fun t i => ∃ (k : Nat) (T : Int), k ≤ n0 ∧ i = .int .i64 k ∧ t = .int .i64 T ∧ Hid (T = 16 * (n0 : Int) + 16 * n1 + 16 * n2 + 8 * n3 + n4 + sz K k) ∧ 0 ≤ T ∧ T ≤ 1048576) (fun _ i => n0 - (intOf i).toNat)
  case atStart => exact ⟨0, _, Nat.zero_le _, rfl, rfl, by simp [Hid, sz], by omega, t0⟩
  case round =>
    obtain ⟨k, T, hk, rfl, rfl, HT, hT0, hT1⟩ := hrel
    by_cases hlt : k < n0
    · obtain ⟨b, off, rfl, _, hc⟩ := hK (by omega)
      have hck := hc k hlt
      clear hc
      go_wp2
      · go_ret; exact ⟨says_no, rfl⟩
      · go_ret; exact ⟨says_no, rfl⟩
      · go_round
        case rel => exact ⟨k + 1, _, by omega, by go_num, rfl, by have := HT.out; simp only [Hid, sz_succ]; omega, by omega, by assumption⟩
        case measure => simp [intOf]; omega
    obtain rfl : k = n0 := by omega
    go_wp2
    go_loop [17, 19] (fun t i => ∃ (q : Nat) (T : Int), q ≤ n1 ∧ i = .int .i64 q ∧ t = .int .i64 T ∧ Hid (T = 16 * (k : Int) + 16 * n1 + 16 * n2 + 8 * n3 + n4 + sz K k + sz R q) ∧ 0 ≤ T ∧ T ≤ 1048576) (fun _ i => n1 - (intOf i).toNat)
    case atStart => exact ⟨0, _, Nat.zero_le _, rfl, rfl, by have := HT.out; simp only [Hid, sz]; omega, hT0, hT1⟩
    case round =>
      obtain ⟨q, T, hq, rfl, rfl, HT, hT0, hT1⟩ := hrel
      by_cases hlq : q < n1
      · obtain ⟨b, off, rfl, _, hc⟩ := hR (by omega)
        have hck := hc q hlq
        clear hc
        go_wp2
        · go_ret; exact ⟨says_no, rfl⟩
        · go_ret; exact ⟨says_no, rfl⟩
        · go_round
          case rel => exact ⟨q + 1, _, by omega, by go_num, rfl, by have := HT.out; simp only [Hid, sz_succ]; omega, by omega, by assumption⟩
          case measure => simp [intOf]; omega
      obtain rfl : q = n1 := by omega
      go_wp2
      go_loop [17, 20] (fun t i => ∃ (p : Nat) (T : Int), p ≤ n2 ∧ i = .int .i64 p ∧ t = .int .i64 T ∧ Hid (T = 16 * (k : Int) + 16 * q + 16 * n2 + 8 * n3 + n4 + sz K k + sz R q + sz A p) ∧ 0 ≤ T ∧ T ≤ 1048576) (fun _ i => n2 - (intOf i).toNat)
      case atStart => exact ⟨0, _, Nat.zero_le _, rfl, rfl, by have := HT.out; simp only [Hid, sz]; omega, hT0, hT1⟩
      case round =>
        obtain ⟨p, T, hp, rfl, rfl, HT, hT0, hT1⟩ := hrel
        by_cases hlp : p < n2
        · obtain ⟨b, off, rfl, _, hc⟩ := hA (by omega)
          have hck := hc p hlp
          clear hc
          go_wp2
          · go_ret; exact ⟨says_no, rfl⟩
          · go_ret; exact ⟨says_no, rfl⟩
          · go_round
            case rel => exact ⟨p + 1, _, by omega, by go_num, rfl, by have := HT.out; simp only [Hid, sz_succ]; omega, by omega, by assumption⟩
            case measure => simp [intOf]; omega
        obtain rfl : p = n2 := by omega
        by_cases e1 : q = k
        · by_cases e2 : p = k
          · by_cases e3 : n3 = k
            · by_cases e4 : n4 = k
              · subst e1; subst e2; subst e3; subst e4
                by_cases z : 0 < n4
                · obtain ⟨b, off, rfl, _, hc⟩ := hD z
                  have hc0 : w.cell? ⟨b, off, none⟩ = some (.bool (D 0)) := hc 0 z
                  clear hc
                  cases hd : D 0
                  · rw [hd] at hc0
                    have HD : Hid (D 0 = false) := hd
                    clear hd
                    go_wp2
                    all_goals first | (go_ret; exact ⟨says_no, rfl⟩) | (go_ret; exact ⟨says_yes ⟨by omega, by have := HT.out; omega, by omega, by omega, by omega, by omega, fun _ => HD.out⟩, rfl⟩)
                  · rw [hd] at hc0
                    clear hd
                    go_wp2
                    all_goals (go_ret; exact ⟨says_no, rfl⟩)
                · go_wp2
                  all_goals first | (go_ret; exact ⟨says_no, rfl⟩) | (go_ret; exact ⟨says_yes ⟨by omega, by have := HT.out; omega, by omega, by omega, by omega, by omega, fun h => absurd h z⟩, rfl⟩)
              · have g1 : ((q : Int) != k) = false := by simp; omega
                have g2 : ((p : Int) != k) = false := by simp; omega
                have g3 : ((n3 : Int) != k) = false := by simp; omega
                have g4 : ((n4 : Int) != k) = true := by simp; omega
                go_wp2
                go_ret; exact ⟨says_no, rfl⟩
            · have g1 : ((q : Int) != k) = false := by simp; omega
              have g2 : ((p : Int) != k) = false := by simp; omega
              have g3 : ((n3 : Int) != k) = true := by simp; omega
              go_wp2
              go_ret; exact ⟨says_no, rfl⟩
          · have g1 : ((q : Int) != k) = false := by simp; omega
            have g2 : ((p : Int) != k) = true := by simp; omega
            go_wp2
            go_ret; exact ⟨says_no, rfl⟩
        · have g1 : ((q : Int) != k) = true := by simp; omega
          go_wp2
          go_ret; exact ⟨says_no, rfl⟩
end Go.Proofs.Qxb6603657a
