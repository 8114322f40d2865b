/-
  WHAT IS READ: a slice whose cells are known; the functions that only read or clone. By an AI agent.
-/
import Derived.Test.Qxb6603657aTime
import Derived.BigQuiet
import Derived.Deep.OwnRows
namespace Go.Proofs.Qxb6603657a
open Go.RowKit

/-- The slice's address 'ao' leads, where it has elements, to n cells that hold 'V i', all in a block below B. -/
def Rd (B : Nat) (w : World) (ao : Option Addr) (n : Nat) (V : Nat → Value) : Prop :=
  0 < n → ∃ b off, ao = some ⟨b, off, none⟩ ∧ b < B ∧ ∀ i, i < n → w.cell? ⟨b, off + i, none⟩ = some (V i)
theorem Rd.below {B B' : Nat} {w w' : World} {ao : Option Addr} {n : Nat} {V : Nat → Value} (h : Rd B w ao n V) (hb : Below B' w w') (hB : B ≤ B') : Rd B w' ao n V := by
  intro hn
  obtain ⟨b, off, e, hlt, hc⟩ := h hn
  exact ⟨b, off, e, hlt, fun i hi => (hb.cell (p := ⟨b, off + i, none⟩) (show b < B' by omega)).trans (hc i hi)⟩
theorem Rd.mono {B B' : Nat} {w : World} {ao : Option Addr} {n : Nat} {V : Nat → Value} (h : Rd B w ao n V) (hB : B ≤ B') : Rd B' w ao n V := by
  intro hn
  obtain ⟨b, off, e, hlt, hc⟩ := h hn
  exact ⟨b, off, e, by omega, hc⟩

/-- Byte i of a string, as a cell. -/
def byteV (s : ByteArray) (i : Nat) : Value := .int .u8 (if h : i < s.size then (s[i].toNat : Int) else 0)
theorem byteV_lt {s : ByteArray} {i : Nat} (h : i < s.size) : byteV s i = .int .u8 (s[i].toNat : Int) := by simp [byteV, h]

/-- It returned a bool. -/
def IsBool (e : Ending) : Prop := ∃ r, e = .returned (.bool r)
theorem isBool (r : Bool) : IsBool (.returned (.bool r)) := ⟨r, rfl⟩

set_option maxHeartbeats 1000000 in
/-- 'zzBytes_..': it returns a bool. -/
theorem bytes16_any (B : Nat) (a0 a1 a2 a3 a4 : Option Addr) (n0 n1 n2 n3 n4 c0 c1 c2 c3 c4 : Nat) (K R A : Nat → ByteArray) (x5 x6 x7 x8 : Value) (w : World)
    (_m0 : n0 ≤ 9223372036854775807) (_m1 : n1 ≤ 9223372036854775807) (_m2 : n2 ≤ 9223372036854775807) (_m3 : n3 ≤ 9223372036854775807) (_m4 : n4 ≤ 9223372036854775807)
    (hK : Rd B w a0 n0 fun i => .string (K i)) (hR : Rd B w a1 n1 fun i => .string (R i)) (hA : Rd B w a2 n2 fun i => .string (A i)) :
    Calls Try.prog 16 #[.slice a0 n0 c0, .slice a1 n1 c1, .slice a2 n2 c2, .slice a3 n3 c3, .slice a4 n4 c4, x5, x6, x7, x8] w fun e w' => IsBool e ∧ w' = w := by
  go_enter Try.func16, Try.ntmps16
  go_wp2
  · go_ret; exact ⟨isBool _, rfl⟩
  go_loop [19, 20] (fun t i => ∃ (k : Nat) (T : Int), k ≤ n0 ∧ 0 ≤ T ∧ T ≤ 1048576 ∧ i = .int .i64 k ∧ t = .int .i64 T) (fun _ i => n0 - (intOf i).toNat)
  case atStart => exact ⟨0, _, Nat.zero_le _, by omega, by assumption, rfl, rfl⟩
  case round =>
    obtain ⟨k, T, hk, hT0, hT1, rfl, rfl⟩ := hrel
    by_cases hlt : k < n0
    · obtain ⟨b, off, rfl, _, hc⟩ := hK (by omega)
      have hck := hc k hlt
      clear hc
      go_wp2
      · go_ret; exact ⟨isBool _, rfl⟩
      · go_ret; exact ⟨isBool _, rfl⟩
      · go_round
        case rel => exact ⟨k + 1, _, by omega, by omega, by assumption, by go_num, rfl⟩
        case measure => simp [intOf]; omega
    go_wp2
    · go_ret; exact ⟨isBool _, rfl⟩
    · go_ret; exact ⟨isBool _, rfl⟩
    go_loop [19, 21] (fun t i => ∃ (k : Nat) (T : Int), k ≤ n1 ∧ 0 ≤ T ∧ T ≤ 1048576 ∧ i = .int .i64 k ∧ t = .int .i64 T) (fun _ i => n1 - (intOf i).toNat)
    case atStart => exact ⟨0, _, Nat.zero_le _, by omega, by assumption, rfl, rfl⟩
    case round =>
      obtain ⟨k, T, hk, hT0, hT1, rfl, rfl⟩ := hrel
      by_cases hlt : k < n1
      · obtain ⟨b, off, rfl, _, hc⟩ := hR (by omega)
        have hck := hc k hlt
        clear hc
        go_wp2
        · go_ret; exact ⟨isBool _, rfl⟩
        · go_ret; exact ⟨isBool _, rfl⟩
        · go_round
          case rel => exact ⟨k + 1, _, by omega, by omega, by assumption, by go_num, rfl⟩
          case measure => simp [intOf]; omega
      go_wp2
      · go_ret; exact ⟨isBool _, rfl⟩
      · go_ret; exact ⟨isBool _, rfl⟩
      go_loop [19, 22] (fun t i => ∃ (k : Nat) (T : Int), k ≤ n2 ∧ 0 ≤ T ∧ T ≤ 1048576 ∧ i = .int .i64 k ∧ t = .int .i64 T) (fun _ i => n2 - (intOf i).toNat)
      case atStart => exact ⟨0, _, Nat.zero_le _, by omega, by assumption, rfl, rfl⟩
      case round =>
        obtain ⟨k, T, hk, hT0, hT1, rfl, rfl⟩ := hrel
        by_cases hlt : k < n2
        · obtain ⟨b, off, rfl, _, hc⟩ := hA (by omega)
          have hck := hc k hlt
          clear hc
          go_wp2
          · go_ret; exact ⟨isBool _, rfl⟩
          · go_ret; exact ⟨isBool _, rfl⟩
          · go_round
            case rel => exact ⟨k + 1, _, by omega, by omega, by assumption, by go_num, rfl⟩
            case measure => simp [intOf]; omega
        go_wp2
        all_goals (go_ret; exact ⟨isBool _, rfl⟩)

set_option maxHeartbeats 1000000 in
/-- 'zzBytes_..': it returns a bool. -/
theorem bytes23_any (B : Nat) (a0 a1 a2 a3 a4 : Option Addr) (n0 n1 n2 n3 n4 c0 c1 c2 c3 c4 : Nat) (K R A : Nat → ByteArray) (x5 x6 x7 x8 : Value) (w : World)
    (_m0 : n0 ≤ 9223372036854775807) (_m1 : n1 ≤ 9223372036854775807) (_m2 : n2 ≤ 9223372036854775807) (_m3 : n3 ≤ 9223372036854775807) (_m4 : n4 ≤ 9223372036854775807)
    (hK : Rd B w a0 n0 fun i => .string (K i)) (hR : Rd B w a1 n1 fun i => .string (R i)) (hA : Rd B w a2 n2 fun i => .string (A i)) :
    Calls Try.prog 23 #[.slice a0 n0 c0, .slice a1 n1 c1, .slice a2 n2 c2, .slice a3 n3 c3, .slice a4 n4 c4, x5, x6, x7, x8] w fun e w' => IsBool e ∧ w' = w := by
  go_enter Try.func23, Try.ntmps23
  go_wp2
  · go_ret; exact ⟨isBool _, rfl⟩
  go_loop [19, 20] (fun t i => ∃ (k : Nat) (T : Int), k ≤ n0 ∧ 0 ≤ T ∧ T ≤ 1048576 ∧ i = .int .i64 k ∧ t = .int .i64 T) (fun _ i => n0 - (intOf i).toNat)
  case atStart => exact ⟨0, _, Nat.zero_le _, by omega, by assumption, rfl, rfl⟩
  case round =>
    obtain ⟨k, T, hk, hT0, hT1, rfl, rfl⟩ := hrel
    by_cases hlt : k < n0
    · obtain ⟨b, off, rfl, _, hc⟩ := hK (by omega)
      have hck := hc k hlt
      clear hc
      go_wp2
      · go_ret; exact ⟨isBool _, rfl⟩
      · go_ret; exact ⟨isBool _, rfl⟩
      · go_round
        case rel => exact ⟨k + 1, _, by omega, by omega, by assumption, by go_num, rfl⟩
        case measure => simp [intOf]; omega
    go_wp2
    · go_ret; exact ⟨isBool _, rfl⟩
    · go_ret; exact ⟨isBool _, rfl⟩
    go_loop [19, 21] (fun t i => ∃ (k : Nat) (T : Int), k ≤ n1 ∧ 0 ≤ T ∧ T ≤ 1048576 ∧ i = .int .i64 k ∧ t = .int .i64 T) (fun _ i => n1 - (intOf i).toNat)
    case atStart => exact ⟨0, _, Nat.zero_le _, by omega, by assumption, rfl, rfl⟩
    case round =>
      obtain ⟨k, T, hk, hT0, hT1, rfl, rfl⟩ := hrel
      by_cases hlt : k < n1
      · obtain ⟨b, off, rfl, _, hc⟩ := hR (by omega)
        have hck := hc k hlt
        clear hc
        go_wp2
        · go_ret; exact ⟨isBool _, rfl⟩
        · go_ret; exact ⟨isBool _, rfl⟩
        · go_round
          case rel => exact ⟨k + 1, _, by omega, by omega, by assumption, by go_num, rfl⟩
          case measure => simp [intOf]; omega
      go_wp2
      · go_ret; exact ⟨isBool _, rfl⟩
      · go_ret; exact ⟨isBool _, rfl⟩
      go_loop [19, 22] (fun t i => ∃ (k : Nat) (T : Int), k ≤ n2 ∧ 0 ≤ T ∧ T ≤ 1048576 ∧ i = .int .i64 k ∧ t = .int .i64 T) (fun _ i => n2 - (intOf i).toNat)
      case atStart => exact ⟨0, _, Nat.zero_le _, by omega, by assumption, rfl, rfl⟩
      case round =>
        obtain ⟨k, T, hk, hT0, hT1, rfl, rfl⟩ := hrel
        by_cases hlt : k < n2
        · obtain ⟨b, off, rfl, _, hc⟩ := hA (by omega)
          have hck := hc k hlt
          clear hc
          go_wp2
          · go_ret; exact ⟨isBool _, rfl⟩
          · go_ret; exact ⟨isBool _, rfl⟩
          · go_round
            case rel => exact ⟨k + 1, _, by omega, by omega, by assumption, by go_num, rfl⟩
            case measure => simp [intOf]; omega
        go_wp2
        all_goals (go_ret; exact ⟨isBool _, rfl⟩)

end Go.Proofs.Qxb6603657a
