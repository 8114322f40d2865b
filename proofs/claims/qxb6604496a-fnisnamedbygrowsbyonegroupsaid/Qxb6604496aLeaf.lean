/-
  WHAT IS READ; the functions that only read or clone. By an AI agent.
-/
import Derived.Test.Qxb6604496aProg
import Derived.WalkKit
import Derived.WalkSpells
import Derived.WalkLawsBesides
import Derived.BigQuiet
import Derived.Deep.OwnRows
namespace Go.Proofs.Qxb6604496a
open Go.RowKit
set_option linter.unusedVariables false

/-- The slice's address 'ao' leads, where it has elements, to n cells that hold 'V i', all in a block below B. -/
def Rd (B : Nat) (w : World) (ao : Option Addr) (n : Nat) (V : Nat → Value) : Prop :=
  0 < n → ∃ b off, ao = some ⟨b, off, none⟩ ∧ b < B ∧ ∀ i, i < n → w.cell? ⟨b, off + i, none⟩ = some (V i)
theorem Rd.below {B B' : Nat} {w w' : World} {ao : Option Addr} {n : Nat} {V : Nat → Value} (h : Rd B w ao n V) (hb : Below B' w w') (hB : B ≤ B') : Rd B w' ao n V := by
  intro hn
  obtain ⟨b, off, e, hlt, hc⟩ := h hn
  exact ⟨b, off, e, hlt, fun i hi => (hb.cell (p := ⟨b, off + i, none⟩) (show b < B' by omega)).trans (hc i hi)⟩
theorem Rd.mono {B B' : Nat} {w : World} {ao : Option Addr} {n : Nat} {V : Nat → Value} (h : Rd B w ao n V) (hB : B ≤ B') : Rd B' w ao n V := by
  intro hn
  obtain ⟨b, off, e, hlt, hc⟩ := h hn
  exact ⟨b, off, e, by omega, hc⟩

/-- It returned a bool. -/
def IsBool (e : Ending) : Prop := ∃ r, e = .returned (.bool r)
theorem isBool (r : Bool) : IsBool (.returned (.bool r)) := ⟨r, rfl⟩

theorem Try.info9 : (Try.prog.info? 9).map (fun i => (i.zero, i.size, i.bytes)) = some (some (.string ByteArray.empty), 1, 16) := by kernel_rfl

/-- The first k cells are copied. -/
def upTo (z : Value) (V : Nat → Value) (k : Nat) : Nat → Value := fun i => if i < k then V i else z

theorem clone_start (w : World) (z : Value) (n : Nat) (t : TypeId) (V : Nat → Value) :
    (w.alloc (.cells (madeCells #[z] n) t)).rowIs w.heap.size t n (upTo z V 0) ∧ Below w.heap.size w (w.alloc (.cells (madeCells #[z] n) t)) ∧ (w.alloc (.cells (madeCells #[z] n) t)).heap.size = w.heap.size + 1 :=
  ⟨(World.rowIs_made w z n t).congr fun i _ => by simp [upTo], (Below.refl _ _).alloc (Nat.le_refl _) _, by simp⟩
theorem clone_step {w wr : World} {z : Value} {n k : Nat} {t : TypeId} {V : Nat → Value} (h : wr.rowIs w.heap.size t n (upTo z V k)) (hb : Below w.heap.size w wr) (hz : wr.heap.size = w.heap.size + 1) :
    (wr.setCell ⟨w.heap.size, k, none⟩ (V k)).rowIs w.heap.size t n (upTo z V (k + 1)) ∧ Below w.heap.size w (wr.setCell ⟨w.heap.size, k, none⟩ (V k)) ∧ (wr.setCell ⟨w.heap.size, k, none⟩ (V k)).heap.size = w.heap.size + 1 := by
  refine ⟨(h.set k (V k)).congr fun i _ => ?_, hb.setCell (Nat.le_refl _) _, by simpa [World.setCell] using hz⟩
  unfold upTo
  by_cases e : i = k
  · subst e; simp
  · by_cases g : i < k
    · simp [e, g, show i < k + 1 by omega]
    · simp [e, g, show ¬ i < k + 1 by omega]
theorem clone_done {wr : World} {b n k : Nat} {t : TypeId} {z : Value} {V : Nat → Value} (h : wr.rowIs b t n (upTo z V k)) (hk : n ≤ k) : wr.rowIs b t n V :=
  h.congr fun i hi => by simp [upTo, show i < k by omega]

set_option maxRecDepth 100000 in
set_option maxHeartbeats 400000 in
/-- 'cloneStrings', at a slice that is not nil. -/
theorem cloneStrs_some (ad : Addr) (n c : Nat) (V : Nat → ByteArray) (w : World) (hn : n ≤ 65536) (hc : Rd w.heap.size w (some ad) n fun i => .string (V i)) :
    Calls Try.prog 15 #[.slice (some ad) n c] w fun e w' => e = .returned (.slice (some ⟨w.heap.size, 0, none⟩) n n) ∧ w'.rowIs w.heap.size 9 n (fun i => .string (V i)) ∧ Below w.heap.size w w' ∧ w'.heap.size = w.heap.size + 1 := by
  have hmk := run_make_row' (P := Try.prog) 23 9 (.string ByteArray.empty) 16 Try.underlying23 Try.info9 rfl .i64 .i64 n (by omega) (by omega)
  have heq := fun w => Lib.run_eql_slice_nil (P := Try.prog) w 23 9 (some ad) n c 0 0 Try.underlying23
  go_enter Try.func15, Try.ntmps15
  go_wp2
  go_loopw [4] (fun i wr => ∃ k : Nat, k ≤ n ∧ i = .int .i64 k ∧ wr.rowIs w.heap.size 9 n (upTo (.string ByteArray.empty) (fun i => .string (V i)) k) ∧ Below w.heap.size w wr ∧ wr.heap.size = w.heap.size + 1) (fun i _ => n - (intOf i).toNat)
  case atStart => exact ⟨0, Nat.zero_le _, rfl, clone_start w (.string ByteArray.empty) n 9 _⟩
  case round =>
    obtain ⟨k, hk, rfl, hrow, hb, hz⟩ := hrel
    clear hmk
    by_cases hlt : k < n
    · obtain ⟨b, off, e, hbB, hcc⟩ := hc (by omega)
      obtain rfl := Option.some.inj e
      have hck : wr.cell? ⟨b, off + k, none⟩ = some (.string (V k)) := (hb.cell (p := ⟨b, off + k, none⟩) hbB).trans (hcc k hlt)
      have hd := hrow.cell hlt
      have hf := hrow.frozen k
      have S := clone_step hrow hb hz
      clear hcc hc hrow hb
      have HZ : Hid (wr.heap.size = w.heap.size + 1) := hz
      clear hz
      go_wp2
      go_roundw
      case rel => exact ⟨k + 1, by omega, by go_num, S⟩
      case measure => simp [intOf]; omega
    · have S := clone_done hrow (by omega)
      clear hc hrow
      have HZ : Hid (wr.heap.size = w.heap.size + 1) := hz
      clear hz
      go_wp2
      go_ret
      exact ⟨rfl, S, hb, HZ.out⟩
set_option maxHeartbeats 400000 in
theorem cloneStrs_nil (w : World) : Calls Try.prog 15 #[.slice none 0 0] w fun e w' => e = .returned (.slice none 0 0) ∧ w' = w := by
  have heq := fun w => Lib.run_eql_slice_nil (P := Try.prog) w 23 9 none 0 0 0 0 Try.underlying23
  go_enter Try.func15, Try.ntmps15
  go_wp2
  go_ret
  exact ⟨rfl, rfl⟩
/-- 'cloneStrings', at whatever slice. -/
theorem cloneStrs_any (ao : Option Addr) (n c : Nat) (V : Nat → ByteArray) (w : World) (hn : n ≤ 65536) (h0 : ao = none → n = 0 ∧ c = 0) (hc : Rd w.heap.size w ao n fun i => .string (V i)) :
    Calls Try.prog 15 #[.slice ao n c] w fun e w' => ∃ ao' c', e = .returned (.slice ao' n c') ∧ Rd w'.heap.size w' ao' n (fun i => .string (V i)) ∧ Below w.heap.size w w' := by
  cases ao with
  | none =>
    obtain ⟨rfl, rfl⟩ := h0 rfl
    refine (cloneStrs_nil w).mono ?_
    rintro e w' ⟨rfl, rfl⟩
    exact ⟨none, 0, rfl, hc, Below.refl _ _⟩
  | some ad =>
    refine (cloneStrs_some ad n c V w hn hc).mono ?_
    rintro e w' ⟨rfl, hr, hb, hz⟩
    exact ⟨_, n, rfl, fun _ => ⟨_, 0, rfl, by omega, fun i hi => by rw [Nat.zero_add]; exact hr.cell hi⟩, hb⟩


/-- It returned a number between 0 and 2097152. -/
def Small (e : Ending) : Prop := ∃ z : Int, e = .returned (.int .i64 z) ∧ 0 ≤ z ∧ z ≤ 2097152

set_option maxHeartbeats 400000 in
theorem add_any (x y : Int) (w : World) (hx : 0 ≤ x) (hy : 0 ≤ y) : Calls Try.prog 13 #[.int .i64 x, .int .i64 y] w fun e w' => Small e ∧ w' = w := by
  go_enter Try.func13, Try.ntmps13
  by_cases h1 : 1048576 < x
  · go_wp2_with fail
    go_ret
    exact ⟨⟨1048577, rfl, by decide, by decide⟩, rfl⟩
  · by_cases h2 : 1048576 < y
    · have g1 : ¬ (1048576 < x) := h1
      go_wp2_with fail
      go_ret
      exact ⟨⟨1048577, rfl, by decide, by decide⟩, rfl⟩
    · have q : IntKind.i64.wrap (x + y) = x + y := by rw [IntKind.wrap_i64]; omega
      go_wp2_with fail
      go_ret
      exact ⟨⟨x + y, rfl, by omega, by omega⟩, rfl⟩

set_option maxHeartbeats 1000000 in
theorem strings_any (B : Nat) (t : Int) (ao : Option Addr) (n c : Nat) (V : Nat → ByteArray) (w : World) (ht : 0 ≤ t) (hn : n ≤ 1048576) (hc : Rd B w ao n fun i => .string (V i)) :
    Calls Try.prog 17 #[.int .i64 t, .slice ao n c] w fun e w' => Small e ∧ w' = w := by
  have g1 : ¬ ((1048576 : Int) < n) := by omega
  have q1 : IntKind.i64.wrap (16 * (n : Int)) = 16 * n := by rw [IntKind.wrap_i64]; omega
  go_enter Try.func17, Try.ntmps17
  go_wp2_with fail
  refine (add_any _ _ _ ht (by omega)).mono ?_
  rintro e w' ⟨⟨z, rfl, hz0, hz1⟩, hw⟩
  obtain rfl := hw.symm
  go_wp2_with fail
  go_loop [0, 5] (fun t i => ∃ (k : Nat) (T : Int), k ≤ n ∧ 0 ≤ T ∧ T ≤ 2097152 ∧ i = .int .i64 k ∧ t = .int .i64 T) (fun _ i => n - (intOf i).toNat)
  case atStart => exact ⟨0, _, Nat.zero_le _, hz0, hz1, rfl, rfl⟩
  case round =>
    obtain ⟨k, T, hk, hT0, hT1, rfl, rfl⟩ := hrel
    by_cases hlt : k < n
    · obtain ⟨b, off, rfl, _, hcc⟩ := hc (by omega)
      have hck := hcc k hlt
      clear hcc
      have g2 : (k : Int) < n := by omega
      go_wp2_with fail
      refine (add_any _ _ _ hT0 (by omega)).mono ?_
      rintro e w' ⟨⟨z, rfl, hz0, hz1⟩, hw⟩
      obtain rfl := hw.symm
      go_wp2_with fail
      go_round
      case rel => exact ⟨k + 1, _, by omega, hz0, hz1, by go_num, rfl⟩
      case measure => simp [intOf]; omega
    · have g2 : ¬ ((k : Int) < n) := by omega
      go_wp2_with fail
      go_ret
      exact ⟨⟨T, rfl, hT0, hT1⟩, rfl⟩

set_option maxHeartbeats 1000000 in
theorem identity_any (B : Nat) (u m : ByteArray) (ao : Option Addr) (n c : Nat) (V : Nat → ByteArray) (w : World) (hn : n ≤ 1048576) (hc : Rd B w ao n fun i => .string (V i)) :
    Calls Try.prog 14 #[.string u, .string m, .slice ao n c] w fun e w' => Small e ∧ w' = w := by
  go_enter Try.func14, Try.ntmps14
  go_wp2_with fail
  refine (add_any _ _ _ (by omega) (by omega)).mono ?_
  rintro e w' ⟨⟨z, rfl, hz0, hz1⟩, hw⟩
  obtain rfl := hw.symm
  go_wp2_with fail
  refine (strings_any B _ ao n c V _ hz0 hn hc).mono ?_
  rintro e w' ⟨⟨z, rfl, hz0, hz1⟩, hw⟩
  obtain rfl := hw.symm
  go_wp2_with fail
  go_ret
  exact ⟨⟨z, rfl, hz0, hz1⟩, rfl⟩

set_option maxHeartbeats 1000000 in
/-- 'zzBytes_..': it returns a bool. -/
theorem bytes_any (B : Nat) (u m g : ByteArray) (ao : Option Addr) (n c : Nat) (V : Nat → ByteArray) (x2 x3 x4 : Value) (w : World) (hu : u.size ≤ 9223372036854775807) (hm : m.size ≤ 9223372036854775807) (hg : g.size ≤ 9223372036854775807) (hn : n ≤ 9223372036854775807) (hc : Rd B w ao n fun i => .string (V i)) :
    Calls Try.prog 12 #[.string u, .slice ao n c, x2, x3, x4, .string m, .string g] w fun e w' => IsBool e ∧ w' = w := by
  go_enter Try.func12, Try.ntmps12
  go_wp2
  · go_ret; exact ⟨isBool _, rfl⟩
  · go_ret; exact ⟨isBool _, rfl⟩
  · go_ret; exact ⟨isBool _, rfl⟩
  go_loop [15, 16] (fun t i => ∃ (k : Nat) (T : Int), k ≤ n ∧ 0 ≤ T ∧ T ≤ 1048576 ∧ i = .int .i64 k ∧ t = .int .i64 T) (fun _ i => n - (intOf i).toNat)
  case atStart => exact ⟨0, _, Nat.zero_le _, by omega, by assumption, rfl, rfl⟩
  case round =>
    obtain ⟨k, T, hk, hT0, hT1, rfl, rfl⟩ := hrel
    by_cases hlt : k < n
    · obtain ⟨b, off, rfl, _, hcc⟩ := hc (by omega)
      have hck := hcc k hlt
      clear hcc
      go_wp2
      · go_ret; exact ⟨isBool _, rfl⟩
      · go_ret; exact ⟨isBool _, rfl⟩
      · go_round
        case rel => exact ⟨k + 1, _, by omega, by omega, by assumption, by go_num, rfl⟩
        case measure => simp [intOf]; omega
    go_wp2
    all_goals (go_ret; exact ⟨isBool _, rfl⟩)
end Go.Proofs.Qxb6604496a
