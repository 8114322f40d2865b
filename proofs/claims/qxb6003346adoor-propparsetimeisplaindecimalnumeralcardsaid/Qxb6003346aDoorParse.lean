/-
  parseTime at a string and at bytes, walked. By an AI agent.
-/
import Derived.Test.Qxb6003346aDoorPlain
import Derived.Test.Qxb6003346aDoorFormat
namespace Go.Proofs.Qxb6003346aDoor
open Go.RowKit
set_option linter.unusedVariables false

/-- The bytes of a string, as numbers. -/
def bts (s : ByteArray) : List Nat := s.data.toList.map UInt8.toNat
theorem bts_length (s : ByteArray) : (bts s).length = s.size := by rw [bts, List.length_map, Array.length_toList]; rfl
theorem bts_get {s : ByteArray} {k : Nat} (h : k < s.size) : (bts s)[k]? = some s[k].toNat := by
  have : k < s.data.toList.length := by rw [Array.length_toList]; exact h
  rw [bts, List.getElem?_map, List.getElem?_eq_getElem this]
  rfl
/-- Byte i of a string, as a number. -/
def byteN (s : ByteArray) (i : Nat) : Nat := (bts s).getD i 0
theorem byteN_at {s : ByteArray} {i : Nat} (h : i < s.size) : s[i].toNat = byteN s i := by
  have := bts_get h
  simp [byteN, List.getD, this]
theorem byteN_lt (s : ByteArray) (i : Nat) : byteN s i < 256 := by
  by_cases h : i < s.size
  · rw [← byteN_at h]; exact s[i].toNat_lt
  · rw [byteN, List.getD, List.getElem?_eq_none (by rw [bts_length]; omega)]; decide
/-- The slice's address 'ao' leads, where it has elements, to n cells that hold the octets 'V i', all in a block below B. -/
def Rd (B : Nat) (w : World) (ao : Option Addr) (n : Nat) (V : Nat → Nat) : Prop :=
  0 < n → ∃ b off, ao = some ⟨b, off, none⟩ ∧ b < B ∧ ∀ i, i < n → w.cell? ⟨b, off + i, none⟩ = some (.int .u8 (V i : Nat))
theorem Rd.below {B B' : Nat} {w w' : World} {ao : Option Addr} {n : Nat} {V : Nat → Nat} (h : Rd B w ao n V) (hb : Below B' w w') (hB : B ≤ B') : Rd B w' ao n V := by
  intro hn
  obtain ⟨b, off, e, hlt, hc⟩ := h hn
  exact ⟨b, off, e, hlt, fun i hi => (hb.cell (p := ⟨b, off + i, none⟩) (show b < B' by omega)).trans (hc i hi)⟩
theorem Rd.mono {B B' : Nat} {w : World} {ao : Option Addr} {n : Nat} {V : Nat → Nat} (h : Rd B w ao n V) (hB : B ≤ B') : Rd B' w ao n V := by
  intro hn
  obtain ⟨b, off, e, hlt, hc⟩ := h hn
  exact ⟨b, off, e, by omega, hc⟩

/-- What a parser answers: the number and true, or 0 and false. -/
def Ans (V : Nat → Nat) (n : Nat) (e : Ending) : Prop :=
  (Good V n ∧ e = .returned (.tuple #[.int .u64 (valN V n : Nat), .bool true])) ∨ (¬ Good V n ∧ e = .returned (.tuple #[.int .u64 0, .bool false]))
theorem not_nil {V : Nat → Nat} {n : Nat} (h : n = 0) : ¬ Good V n := fun g => by have := g.1; omega
theorem not_long {V : Nat → Nat} {n : Nat} (h : 20 < n) : ¬ Good V n := fun g => by have := g.2.1; omega
theorem not_zero {V : Nat → Nat} {n : Nat} (h : V 0 = 48) : ¬ Good V n := fun g => g.2.2.2.1 h
theorem not_dig {V : Nat → Nat} {n k : Nat} (hk : k < n) (h : V k < 48 ∨ 57 < V k) : ¬ Good V n := fun g => by have := g.2.2.1 k hk; omega
theorem not_big {V : Nat → Nat} {n : Nat} (h : 18446744073709551616 ≤ valN V n) : ¬ Good V n := fun g => by have := g.2.2.2.2; omega
theorem mk_good {V : Nat → Nat} {n : Nat} (h0 : n ≠ 0) (h1 : ¬ 20 < n) (hd : Dig V n) (hz : ¬ V 0 = 48) (hv : valN V n < 18446744073709551616) : Good V n := ⟨by omega, by omega, hd, hz, hv⟩

set_option maxRecDepth 100000 in
set_option maxHeartbeats 1000000 in
theorem parseS_any (s : ByteArray) (w : World) (hs : s.size ≤ 1048576) : Calls Tryd.prog 23 #[.string s] w fun e w' => Ans (byteN s) s.size e ∧ w' = w := by
  go_enter Tryd.func23, Tryd.ntmps23
  by_cases h0 : s.size = 0
  · have g0 : ((s.size : Int) == 0) = true := beq_iff_eq.2 (by omega)
    have Y := Lib.hid (not_nil (V := (byteN s)) h0)
    clear h0
    go_wp2_with fail
    go_ret2
    exact ⟨.inr ⟨Y.out, rfl⟩, rfl⟩
  have g0 : ((s.size : Int) == 0) = false := beq_eq_false_iff_ne.2 (by omega)
  by_cases h1 : 20 < s.size
  · have g1 : (20 : Int) < s.size := by omega
    go_wp2_with fail
    go_ret2
    exact ⟨.inr ⟨not_long h1, rfl⟩, rfl⟩
  have g1 : ¬ ((20 : Int) < s.size) := by omega
  have hp : 0 < s.size := by omega
  have e0 := byteN_at hp
  by_cases h2 : byteN s 0 = 48
  · have Y := Lib.hid (not_zero (n := s.size) h2)
    rw [h2] at e0
    clear h2
    go_wp2_with fail
    go_ret2
    exact ⟨.inr ⟨Y.out, rfl⟩, rfl⟩
  have g2 : (((byteN s 0 : Nat) : Int) == 48) = false := beq_eq_false_iff_ne.2 (by omega)
  have HF := Lib.hid (fun hd hv => mk_good (V := (byteN s)) h0 h1 hd h2 hv)
  clear h2
  go_wp2_with fail
  go_loop [4, 5, 6] (fun t i _ => ∃ k : Nat, k ≤ s.size ∧ i = .int .i64 k ∧ t = .int .u64 (valN (byteN s) k : Nat) ∧ Hid (Dig (byteN s) k) ∧ Hid (valN (byteN s) k < 18446744073709551616)) (fun _ i _ => s.size - (intOf i).toNat)
  case atStart => exact ⟨0, Nat.zero_le _, rfl, rfl, fun i hi => absurd hi (by omega), (show (0 : Nat) < 18446744073709551616 by decide)⟩
  case round =>
    clear e0 g2
    obtain ⟨k, hk, rfl, rfl, HD, HB⟩ := hrel
    by_cases hlt : k < s.size
    · have e1 := byteN_at hlt
      have g3 : (k : Int) < s.size := by omega
      have hT := HB.out
      have hT19 := Lib.hid (fun h : Dig (byteN s) (k + 1) => fun h19 : k + 1 ≤ 19 => valN_small h h19)
      have Hd := Lib.hid (fun h => not_dig (V := (byteN s)) hlt h)
      have HS := Lib.hid (fun a b => Dig.succ (V := (byteN s)) HD.out a b)
      have HV := Lib.hid (show valN (byteN s) (k + 1) = 10 * valN (byteN s) k + (byteN s k - 48) from rfl)
      have HG := Lib.hid (fun h : k + 1 = s.size => fun hb : 18446744073709551616 ≤ valN (byteN s) (k + 1) => not_big (V := (byteN s)) (n := s.size) (by rw [← h]; exact hb))
      obtain ⟨c, hc⟩ : ∃ c, c = byteN s k := ⟨_, rfl⟩
      have bc : c < 256 := by rw [hc]; exact byteN_lt s k
      obtain ⟨T, hTe⟩ : ∃ T, T = valN (byteN s) k := ⟨_, rfl⟩
      rw [← hc] at e1 Hd HS HV
      rw [← hTe] at hT HV
      rw [← hTe]
      clear hc hTe HB
      by_cases hd : c < 48 ∨ 57 < c
      · have Y := Lib.hid (Hd.out hd)
        obtain ⟨d, hde, hd9⟩ : ∃ d : Nat, IntKind.u8.wrap ((c : Int) - 48) = d ∧ 9 < d ∧ d < 256 := by
          rw [IntKind.wrap_u8']
          exact ⟨(((c : Int) - 48) % 256).toNat, by omega, by omega, by omega⟩
        have q2 : IntKind.u64.wrap (d : Int) = d := by rw [IntKind.wrap_u64]; omega
        have g4 : (9 : Int) < d := by omega
        clear hd
        go_wp2_with fail
        go_ret2
        exact ⟨.inr ⟨Y.out, rfl⟩, rfl⟩
      · have HS' := Lib.hid (HS.out (by omega) (by omega))
        obtain ⟨d, hde, hcd, hd9⟩ : ∃ d : Nat, IntKind.u8.wrap ((c : Int) - 48) = d ∧ Hid (c = d + 48) ∧ d ≤ 9 := by
          rw [IntKind.wrap_u8']
          exact ⟨c - 48, by omega, (show c = c - 48 + 48 by omega), by omega⟩
        have HV' := Lib.hid (show valN (byteN s) (k + 1) = T * 10 + d by rw [HV.out, hcd.out]; omega)
        have q2 : IntKind.u64.wrap (d : Int) = d := by rw [IntKind.wrap_u64]; omega
        have g4 : ¬ ((9 : Int) < d) := by omega
        clear hd HV HS Hd
        by_cases h19 : k = 19
        · have b19 : ((k : Int) == 19) = true := beq_iff_eq.2 (by omega)
          have q3 : IntKind.u64.wrap (18446744073709551615 - (d : Int)) = 18446744073709551615 - d := by rw [IntKind.wrap_u64]; omega
          obtain ⟨Z, hZ, hZ1, hZ2⟩ : ∃ Z : Nat, (18446744073709551615 - (d : Int)).tdiv 10 = Z ∧ 10 * Z + d ≤ 18446744073709551615 ∧ 18446744073709551615 < 10 * Z + 10 + d := by
            refine ⟨(18446744073709551615 - d) / 10, ?_, by omega, by omega⟩
            rw [Int.tdiv_eq_ediv_of_nonneg (by omega)]
            omega
          have q4 : IntKind.u64.wrap (Z : Int) = Z := by rw [IntKind.wrap_u64]; omega
          by_cases hZT : Z < T
          · have g5 : (Z : Int) < T := by omega
            have Y := Lib.hid (HG.out (by omega) (by rw [HV'.out]; omega))
            clear HG HV' h19
            go_wp2_with fail
            go_ret2
            exact ⟨.inr ⟨Y.out, rfl⟩, rfl⟩
          · have g5 : ¬ ((Z : Int) < T) := by omega
            have hb : T * 10 + d < 18446744073709551616 := by omega
            have HB' := Lib.hid (show valN (byteN s) (k + 1) < 18446744073709551616 by rw [HV'.out]; exact hb)
            have q5 : IntKind.u64.wrap ((T : Int) * 10) = T * 10 := by rw [IntKind.wrap_u64]; omega
            have q6 : IntKind.u64.wrap ((T : Int) * 10 + d) = T * 10 + d := by rw [IntKind.wrap_u64]; omega
            clear h19
            go_wp2_with fail
            go_round
            case rel => exact ⟨k + 1, by omega, by go_num, by rw [HV'.out]; rfl, HS', HB'⟩
            case measure => simp [intOf]; omega
        · have b19 : ((k : Int) == 19) = false := beq_eq_false_iff_ne.2 (by omega)
          have HB' := Lib.hid (hT19.out HS'.out (by omega))
          have hb : T * 10 + d < 18446744073709551616 := by rw [← HV'.out]; exact HB'.out
          have q5 : IntKind.u64.wrap ((T : Int) * 10) = T * 10 := by rw [IntKind.wrap_u64]; omega
          have q6 : IntKind.u64.wrap ((T : Int) * 10 + d) = T * 10 + d := by rw [IntKind.wrap_u64]; omega
          go_wp2_with fail
          go_round
          case rel => exact ⟨k + 1, by omega, by go_num, by rw [HV'.out]; rfl, HS', HB'⟩
          case measure => simp [intOf]; omega
    · have hkn : k = s.size := by omega
      subst hkn
      have Y := Lib.hid (HF.out HD.out HB.out)
      clear HB
      go_wp2_with fail
      go_ret2
      exact ⟨.inl ⟨Y.out, rfl⟩, rfl⟩

set_option maxRecDepth 100000 in
set_option maxHeartbeats 1000000 in
theorem parseB_any (B : Nat) (ao : Option Addr) (n cp : Nat) (V : Nat → Nat) (w : World) (hs : n ≤ 1048576) (hV : ∀ i, V i < 256) (hc : Rd B w ao n V) : Calls Tryd.prog 25 #[.slice ao n cp] w fun e w' => Ans V n e ∧ w' = w := by
  go_enter Tryd.func25, Tryd.ntmps25
  by_cases h0 : n = 0
  · have g0 : ((n : Int) == 0) = true := beq_iff_eq.2 (by omega)
    have Y := Lib.hid (not_nil (V := V) h0)
    clear h0
    clear hc hV
    go_wp2_with fail
    go_ret2
    exact ⟨.inr ⟨Y.out, rfl⟩, rfl⟩
  have g0 : ((n : Int) == 0) = false := beq_eq_false_iff_ne.2 (by omega)
  by_cases h1 : 20 < n
  · have g1 : (20 : Int) < n := by omega
    clear hc hV
    go_wp2_with fail
    go_ret2
    exact ⟨.inr ⟨not_long h1, rfl⟩, rfl⟩
  have g1 : ¬ ((20 : Int) < n) := by omega
  have hp : 0 < n := by omega
  obtain ⟨bb, off, rfl, _, hcc⟩ := hc hp
  have e0 : w.cell? ⟨bb, off, none⟩ = some (.int .u8 (V 0 : Nat)) := hcc 0 hp
  have HC := Lib.hid hcc
  have HV256 := Lib.hid hV
  clear hcc hV
  by_cases h2 : V 0 = 48
  · have Y := Lib.hid (not_zero (n := n) h2)
    rw [h2] at e0
    clear h2
    go_wp2_with fail
    go_ret2
    exact ⟨.inr ⟨Y.out, rfl⟩, rfl⟩
  have g2 : (((V 0 : Nat) : Int) == 48) = false := beq_eq_false_iff_ne.2 (by omega)
  have HF := Lib.hid (fun hd hv => mk_good (V := V) h0 h1 hd h2 hv)
  clear h2
  go_wp2_with fail
  go_loop [4, 5, 6] (fun t i _ => ∃ k : Nat, k ≤ n ∧ i = .int .i64 k ∧ t = .int .u64 (valN V k : Nat) ∧ Hid (Dig V k) ∧ Hid (valN V k < 18446744073709551616)) (fun _ i _ => n - (intOf i).toNat)
  case atStart => exact ⟨0, Nat.zero_le _, rfl, rfl, fun i hi => absurd hi (by omega), (show (0 : Nat) < 18446744073709551616 by decide)⟩
  case round =>
    clear e0 g2
    obtain ⟨k, hk, rfl, rfl, HD, HB⟩ := hrel
    by_cases hlt : k < n
    · have e1 := HC.out k hlt
      have g3 : (k : Int) < n := by omega
      have hT := HB.out
      have hT19 := Lib.hid (fun h : Dig V (k + 1) => fun h19 : k + 1 ≤ 19 => valN_small h h19)
      have Hd := Lib.hid (fun h => not_dig (V := V) hlt h)
      have HS := Lib.hid (fun a b => Dig.succ (V := V) HD.out a b)
      have HV := Lib.hid (show valN V (k + 1) = 10 * valN V k + (V k - 48) from rfl)
      have HG := Lib.hid (fun h : k + 1 = n => fun hb : 18446744073709551616 ≤ valN V (k + 1) => not_big (V := V) (n := n) (by rw [← h]; exact hb))
      obtain ⟨c, hc⟩ : ∃ c, c = V k := ⟨_, rfl⟩
      have bc : c < 256 := by rw [hc]; exact HV256.out k
      obtain ⟨T, hTe⟩ : ∃ T, T = valN V k := ⟨_, rfl⟩
      rw [← hc] at e1 Hd HS HV
      rw [← hTe] at hT HV
      rw [← hTe]
      clear hc hTe HB
      by_cases hd : c < 48 ∨ 57 < c
      · have Y := Lib.hid (Hd.out hd)
        obtain ⟨d, hde, hd9⟩ : ∃ d : Nat, IntKind.u8.wrap ((c : Int) - 48) = d ∧ 9 < d ∧ d < 256 := by
          rw [IntKind.wrap_u8']
          exact ⟨(((c : Int) - 48) % 256).toNat, by omega, by omega, by omega⟩
        have q2 : IntKind.u64.wrap (d : Int) = d := by rw [IntKind.wrap_u64]; omega
        have g4 : (9 : Int) < d := by omega
        clear hd
        go_wp2_with fail
        go_ret2
        exact ⟨.inr ⟨Y.out, rfl⟩, rfl⟩
      · have HS' := Lib.hid (HS.out (by omega) (by omega))
        obtain ⟨d, hde, hcd, hd9⟩ : ∃ d : Nat, IntKind.u8.wrap ((c : Int) - 48) = d ∧ Hid (c = d + 48) ∧ d ≤ 9 := by
          rw [IntKind.wrap_u8']
          exact ⟨c - 48, by omega, (show c = c - 48 + 48 by omega), by omega⟩
        have HV' := Lib.hid (show valN V (k + 1) = T * 10 + d by rw [HV.out, hcd.out]; omega)
        have q2 : IntKind.u64.wrap (d : Int) = d := by rw [IntKind.wrap_u64]; omega
        have g4 : ¬ ((9 : Int) < d) := by omega
        clear hd HV HS Hd
        by_cases h19 : k = 19
        · have b19 : ((k : Int) == 19) = true := beq_iff_eq.2 (by omega)
          have q3 : IntKind.u64.wrap (18446744073709551615 - (d : Int)) = 18446744073709551615 - d := by rw [IntKind.wrap_u64]; omega
          obtain ⟨Z, hZ, hZ1, hZ2⟩ : ∃ Z : Nat, (18446744073709551615 - (d : Int)).tdiv 10 = Z ∧ 10 * Z + d ≤ 18446744073709551615 ∧ 18446744073709551615 < 10 * Z + 10 + d := by
            refine ⟨(18446744073709551615 - d) / 10, ?_, by omega, by omega⟩
            rw [Int.tdiv_eq_ediv_of_nonneg (by omega)]
            omega
          have q4 : IntKind.u64.wrap (Z : Int) = Z := by rw [IntKind.wrap_u64]; omega
          by_cases hZT : Z < T
          · have g5 : (Z : Int) < T := by omega
            have Y := Lib.hid (HG.out (by omega) (by rw [HV'.out]; omega))
            clear HG HV' h19
            go_wp2_with fail
            go_ret2
            exact ⟨.inr ⟨Y.out, rfl⟩, rfl⟩
          · have g5 : ¬ ((Z : Int) < T) := by omega
            have hb : T * 10 + d < 18446744073709551616 := by omega
            have HB' := Lib.hid (show valN V (k + 1) < 18446744073709551616 by rw [HV'.out]; exact hb)
            have q5 : IntKind.u64.wrap ((T : Int) * 10) = T * 10 := by rw [IntKind.wrap_u64]; omega
            have q6 : IntKind.u64.wrap ((T : Int) * 10 + d) = T * 10 + d := by rw [IntKind.wrap_u64]; omega
            clear h19
            go_wp2_with fail
            go_round
            case rel => exact ⟨k + 1, by omega, by go_num, by rw [HV'.out]; rfl, HS', HB'⟩
            case measure => simp [intOf]; omega
        · have b19 : ((k : Int) == 19) = false := beq_eq_false_iff_ne.2 (by omega)
          have HB' := Lib.hid (hT19.out HS'.out (by omega))
          have hb : T * 10 + d < 18446744073709551616 := by rw [← HV'.out]; exact HB'.out
          have q5 : IntKind.u64.wrap ((T : Int) * 10) = T * 10 := by rw [IntKind.wrap_u64]; omega
          have q6 : IntKind.u64.wrap ((T : Int) * 10 + d) = T * 10 + d := by rw [IntKind.wrap_u64]; omega
          go_wp2_with fail
          go_round
          case rel => exact ⟨k + 1, by omega, by go_num, by rw [HV'.out]; rfl, HS', HB'⟩
          case measure => simp [intOf]; omega
    · have hkn : k = n := by omega
      subst hkn
      have Y := Lib.hid (HF.out HD.out HB.out)
      clear HB
      go_wp2_with fail
      go_ret2
      exact ⟨.inl ⟨Y.out, rfl⟩, rfl⟩
end Go.Proofs.Qxb6003346aDoor
