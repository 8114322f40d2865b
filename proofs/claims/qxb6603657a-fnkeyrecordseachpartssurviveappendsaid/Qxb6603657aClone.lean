/-
  THE CLONES; zzBytesAre. By an AI agent.
-/
import Derived.Test.Qxb6603657aMem
namespace Go.Proofs.Qxb6603657a
open Go.RowKit

theorem Try.info2 : (Try.prog.info? 2).map (fun i => (i.zero, i.size, i.bytes)) = some (some (.int .i64 0), 1, 8) := by kernel_rfl
theorem Try.info9 : (Try.prog.info? 9).map (fun i => (i.zero, i.size, i.bytes)) = some (some (.string ByteArray.empty), 1, 16) := by kernel_rfl
theorem Try.info4 : (Try.prog.info? 4).map (fun i => (i.zero, i.size, i.bytes)) = some (some (.bool false), 1, 1) := by kernel_rfl

/-- The first k cells are copied. -/
def upTo (z : Value) (V : Nat → Value) (k : Nat) : Nat → Value := fun i => if i < k then V i else z

theorem clone_start (w : World) (z : Value) (n : Nat) (t : TypeId) (V : Nat → Value) :
    (w.alloc (.cells (madeCells #[z] n) t)).rowIs w.heap.size t n (upTo z V 0) ∧ Below w.heap.size w (w.alloc (.cells (madeCells #[z] n) t)) ∧ (w.alloc (.cells (madeCells #[z] n) t)).heap.size = w.heap.size + 1 :=
  ⟨(World.rowIs_made w z n t).congr fun i _ => by simp [upTo], (Below.refl _ _).alloc (Nat.le_refl _) _, by simp⟩
theorem clone_step {w wr : World} {z : Value} {n k : Nat} {t : TypeId} {V : Nat → Value} (h : wr.rowIs w.heap.size t n (upTo z V k)) (hb : Below w.heap.size w wr) (hz : wr.heap.size = w.heap.size + 1) :
    (wr.setCell ⟨w.heap.size, k, none⟩ (V k)).rowIs w.heap.size t n (upTo z V (k + 1)) ∧ Below w.heap.size w (wr.setCell ⟨w.heap.size, k, none⟩ (V k)) ∧ (wr.setCell ⟨w.heap.size, k, none⟩ (V k)).heap.size = w.heap.size + 1 := by
  refine ⟨(h.set k (V k)).congr fun i _ => ?_, hb.setCell (Nat.le_refl _) _, by simpa [World.setCell] using hz⟩
  unfold upTo
  by_cases e : i = k
  · subst e; simp
  · by_cases g : i < k
    · simp [e, g, show i < k + 1 by omega]
    · simp [e, g, show ¬ i < k + 1 by omega]
theorem clone_done {wr : World} {b n k : Nat} {t : TypeId} {z : Value} {V : Nat → Value} (h : wr.rowIs b t n (upTo z V k)) (hk : n ≤ k) : wr.rowIs b t n V :=
  h.congr fun i hi => by simp [upTo, show i < k by omega]

set_option maxRecDepth 100000 in
set_option maxHeartbeats 400000 in
/-- 'zzCloneInt64s', at a slice that is not nil. -/
theorem cloneInts_some (ad : Addr) (n c : Nat) (V : Nat → Int) (w : World) (hn : n ≤ 65536) (hc : Rd w.heap.size w (some ad) n fun i => .int .i64 (V i)) :
    Calls Try.prog 9 #[.slice (some ad) n c] w fun e w' => e = .returned (.slice (some ⟨w.heap.size, 0, none⟩) n n) ∧ w'.rowIs w.heap.size 2 n (fun i => .int .i64 (V i)) ∧ Below w.heap.size w w' ∧ w'.heap.size = w.heap.size + 1 := by
  have hmk := run_make_row' (P := Try.prog) 22 2 (.int .i64 0) 8 Try.underlying22 Try.info2 rfl .i64 .i64 n (by omega) (by omega)
  have heq := fun w => Lib.run_eql_slice_nil (P := Try.prog) w 22 2 (some ad) n c 0 0 Try.underlying22
  go_enter Try.func9, Try.ntmps9
  go_wp2
  go_loopw [4] (fun i wr => ∃ k : Nat, k ≤ n ∧ i = .int .i64 k ∧ wr.rowIs w.heap.size 2 n (upTo (.int .i64 0) (fun i => .int .i64 (V i)) k) ∧ Below w.heap.size w wr ∧ wr.heap.size = w.heap.size + 1) (fun i _ => n - (intOf i).toNat)
  case atStart => exact ⟨0, Nat.zero_le _, rfl, clone_start w (.int .i64 0) n 2 _⟩
  case round =>
    obtain ⟨k, hk, rfl, hrow, hb, hz⟩ := hrel
    clear hmk
    by_cases hlt : k < n
    · obtain ⟨b, off, e, hbB, hcc⟩ := hc (by omega)
      obtain rfl := Option.some.inj e
      have hck : wr.cell? ⟨b, off + k, none⟩ = some (.int .i64 (V k)) := (hb.cell (p := ⟨b, off + k, none⟩) hbB).trans (hcc k hlt)
      have hd := hrow.cell hlt
      have hf := hrow.frozen k
      have S := clone_step hrow hb hz
      clear hcc hc hrow hb
      have HZ : Hid (wr.heap.size = w.heap.size + 1) := hz
      clear hz
      go_wp2
      go_roundw
      case rel => exact ⟨k + 1, by omega, by go_num, S⟩
      case measure => simp [intOf]; omega
    · have S := clone_done hrow (by omega)
      clear hc hrow
      have HZ : Hid (wr.heap.size = w.heap.size + 1) := hz
      clear hz
      go_wp2
      go_ret
      exact ⟨rfl, S, hb, HZ.out⟩
set_option maxRecDepth 100000 in
set_option maxHeartbeats 400000 in
/-- 'zzCloneStrings', at a slice that is not nil. -/
theorem cloneStrs_some (ad : Addr) (n c : Nat) (V : Nat → ByteArray) (w : World) (hn : n ≤ 65536) (hc : Rd w.heap.size w (some ad) n fun i => .string (V i)) :
    Calls Try.prog 18 #[.slice (some ad) n c] w fun e w' => e = .returned (.slice (some ⟨w.heap.size, 0, none⟩) n n) ∧ w'.rowIs w.heap.size 9 n (fun i => .string (V i)) ∧ Below w.heap.size w w' ∧ w'.heap.size = w.heap.size + 1 := by
  have hmk := run_make_row' (P := Try.prog) 35 9 (.string ByteArray.empty) 16 Try.underlying35 Try.info9 rfl .i64 .i64 n (by omega) (by omega)
  have heq := fun w => Lib.run_eql_slice_nil (P := Try.prog) w 35 9 (some ad) n c 0 0 Try.underlying35
  go_enter Try.func18, Try.ntmps18
  go_wp2
  go_loopw [4] (fun i wr => ∃ k : Nat, k ≤ n ∧ i = .int .i64 k ∧ wr.rowIs w.heap.size 9 n (upTo (.string ByteArray.empty) (fun i => .string (V i)) k) ∧ Below w.heap.size w wr ∧ wr.heap.size = w.heap.size + 1) (fun i _ => n - (intOf i).toNat)
  case atStart => exact ⟨0, Nat.zero_le _, rfl, clone_start w (.string ByteArray.empty) n 9 _⟩
  case round =>
    obtain ⟨k, hk, rfl, hrow, hb, hz⟩ := hrel
    clear hmk
    by_cases hlt : k < n
    · obtain ⟨b, off, e, hbB, hcc⟩ := hc (by omega)
      obtain rfl := Option.some.inj e
      have hck : wr.cell? ⟨b, off + k, none⟩ = some (.string (V k)) := (hb.cell (p := ⟨b, off + k, none⟩) hbB).trans (hcc k hlt)
      have hd := hrow.cell hlt
      have hf := hrow.frozen k
      have S := clone_step hrow hb hz
      clear hcc hc hrow hb
      have HZ : Hid (wr.heap.size = w.heap.size + 1) := hz
      clear hz
      go_wp2
      go_roundw
      case rel => exact ⟨k + 1, by omega, by go_num, S⟩
      case measure => simp [intOf]; omega
    · have S := clone_done hrow (by omega)
      clear hc hrow
      have HZ : Hid (wr.heap.size = w.heap.size + 1) := hz
      clear hz
      go_wp2
      go_ret
      exact ⟨rfl, S, hb, HZ.out⟩
set_option maxRecDepth 100000 in
set_option maxHeartbeats 400000 in
/-- 'zzCloneBools', at a slice that is not nil. -/
theorem cloneBools_some (ad : Addr) (n c : Nat) (V : Nat → Bool) (w : World) (hn : n ≤ 65536) (hc : Rd w.heap.size w (some ad) n fun i => .bool (V i)) :
    Calls Try.prog 19 #[.slice (some ad) n c] w fun e w' => e = .returned (.slice (some ⟨w.heap.size, 0, none⟩) n n) ∧ w'.rowIs w.heap.size 4 n (fun i => .bool (V i)) ∧ Below w.heap.size w w' ∧ w'.heap.size = w.heap.size + 1 := by
  have hmk := run_make_row' (P := Try.prog) 36 4 (.bool false) 1 Try.underlying36 Try.info4 rfl .i64 .i64 n (by omega) (by omega)
  have heq := fun w => Lib.run_eql_slice_nil (P := Try.prog) w 36 4 (some ad) n c 0 0 Try.underlying36
  go_enter Try.func19, Try.ntmps19
  go_wp2
  go_loopw [4] (fun i wr => ∃ k : Nat, k ≤ n ∧ i = .int .i64 k ∧ wr.rowIs w.heap.size 4 n (upTo (.bool false) (fun i => .bool (V i)) k) ∧ Below w.heap.size w wr ∧ wr.heap.size = w.heap.size + 1) (fun i _ => n - (intOf i).toNat)
  case atStart => exact ⟨0, Nat.zero_le _, rfl, clone_start w (.bool false) n 4 _⟩
  case round =>
    obtain ⟨k, hk, rfl, hrow, hb, hz⟩ := hrel
    clear hmk
    by_cases hlt : k < n
    · obtain ⟨b, off, e, hbB, hcc⟩ := hc (by omega)
      obtain rfl := Option.some.inj e
      have hck : wr.cell? ⟨b, off + k, none⟩ = some (.bool (V k)) := (hb.cell (p := ⟨b, off + k, none⟩) hbB).trans (hcc k hlt)
      have hd := hrow.cell hlt
      have hf := hrow.frozen k
      have S := clone_step hrow hb hz
      clear hcc hc hrow hb
      have HZ : Hid (wr.heap.size = w.heap.size + 1) := hz
      clear hz
      go_wp2
      go_roundw
      case rel => exact ⟨k + 1, by omega, by go_num, S⟩
      case measure => simp [intOf]; omega
    · have S := clone_done hrow (by omega)
      clear hc hrow
      have HZ : Hid (wr.heap.size = w.heap.size + 1) := hz
      clear hz
      go_wp2
      go_ret
      exact ⟨rfl, S, hb, HZ.out⟩
set_option maxHeartbeats 400000 in
theorem cloneInts_nil (w : World) : Calls Try.prog 9 #[.slice none 0 0] w fun e w' => e = .returned (.slice none 0 0) ∧ w' = w := by
  have heq := fun w => Lib.run_eql_slice_nil (P := Try.prog) w 22 2 none 0 0 0 0 Try.underlying22
  go_enter Try.func9, Try.ntmps9
  go_wp2
  go_ret
  exact ⟨rfl, rfl⟩
/-- 'zzCloneInt64s', at whatever slice. -/
theorem cloneInts_any (ao : Option Addr) (n c : Nat) (V : Nat → Int) (w : World) (hn : n ≤ 65536) (h0 : ao = none → n = 0 ∧ c = 0) (hc : Rd w.heap.size w ao n fun i => .int .i64 (V i)) :
    Calls Try.prog 9 #[.slice ao n c] w fun e w' => ∃ ao' c', e = .returned (.slice ao' n c') ∧ Rd w'.heap.size w' ao' n (fun i => .int .i64 (V i)) ∧ Below w.heap.size w w' := by
  cases ao with
  | none =>
    obtain ⟨rfl, rfl⟩ := h0 rfl
    refine (cloneInts_nil w).mono ?_
    rintro e w' ⟨rfl, rfl⟩
    exact ⟨none, 0, rfl, hc, Below.refl _ _⟩
  | some ad =>
    refine (cloneInts_some ad n c V w hn hc).mono ?_
    rintro e w' ⟨rfl, hr, hb, hz⟩
    exact ⟨_, n, rfl, fun _ => ⟨_, 0, rfl, by omega, fun i hi => by rw [Nat.zero_add]; exact hr.cell hi⟩, hb⟩

set_option maxHeartbeats 400000 in
theorem cloneStrs_nil (w : World) : Calls Try.prog 18 #[.slice none 0 0] w fun e w' => e = .returned (.slice none 0 0) ∧ w' = w := by
  have heq := fun w => Lib.run_eql_slice_nil (P := Try.prog) w 35 9 none 0 0 0 0 Try.underlying35
  go_enter Try.func18, Try.ntmps18
  go_wp2
  go_ret
  exact ⟨rfl, rfl⟩
/-- 'zzCloneStrings', at whatever slice. -/
theorem cloneStrs_any (ao : Option Addr) (n c : Nat) (V : Nat → ByteArray) (w : World) (hn : n ≤ 65536) (h0 : ao = none → n = 0 ∧ c = 0) (hc : Rd w.heap.size w ao n fun i => .string (V i)) :
    Calls Try.prog 18 #[.slice ao n c] w fun e w' => ∃ ao' c', e = .returned (.slice ao' n c') ∧ Rd w'.heap.size w' ao' n (fun i => .string (V i)) ∧ Below w.heap.size w w' := by
  cases ao with
  | none =>
    obtain ⟨rfl, rfl⟩ := h0 rfl
    refine (cloneStrs_nil w).mono ?_
    rintro e w' ⟨rfl, rfl⟩
    exact ⟨none, 0, rfl, hc, Below.refl _ _⟩
  | some ad =>
    refine (cloneStrs_some ad n c V w hn hc).mono ?_
    rintro e w' ⟨rfl, hr, hb, hz⟩
    exact ⟨_, n, rfl, fun _ => ⟨_, 0, rfl, by omega, fun i hi => by rw [Nat.zero_add]; exact hr.cell hi⟩, hb⟩

set_option maxHeartbeats 400000 in
theorem cloneBools_nil (w : World) : Calls Try.prog 19 #[.slice none 0 0] w fun e w' => e = .returned (.slice none 0 0) ∧ w' = w := by
  have heq := fun w => Lib.run_eql_slice_nil (P := Try.prog) w 36 4 none 0 0 0 0 Try.underlying36
  go_enter Try.func19, Try.ntmps19
  go_wp2
  go_ret
  exact ⟨rfl, rfl⟩
/-- 'zzCloneBools', at whatever slice. -/
theorem cloneBools_any (ao : Option Addr) (n c : Nat) (V : Nat → Bool) (w : World) (hn : n ≤ 65536) (h0 : ao = none → n = 0 ∧ c = 0) (hc : Rd w.heap.size w ao n fun i => .bool (V i)) :
    Calls Try.prog 19 #[.slice ao n c] w fun e w' => ∃ ao' c', e = .returned (.slice ao' n c') ∧ Rd w'.heap.size w' ao' n (fun i => .bool (V i)) ∧ Below w.heap.size w w' := by
  cases ao with
  | none =>
    obtain ⟨rfl, rfl⟩ := h0 rfl
    refine (cloneBools_nil w).mono ?_
    rintro e w' ⟨rfl, rfl⟩
    exact ⟨none, 0, rfl, hc, Below.refl _ _⟩
  | some ad =>
    refine (cloneBools_some ad n c V w hn hc).mono ?_
    rintro e w' ⟨rfl, hr, hb, hz⟩
    exact ⟨_, n, rfl, fun _ => ⟨_, 0, rfl, by omega, fun i hi => by rw [Nat.zero_add]; exact hr.cell hi⟩, hb⟩


set_option maxRecDepth 100000 in
set_option maxHeartbeats 400000 in
/-- 'zzBytesAre', where the bytes ARE the string's. -/
theorem bytesAre_any (B : Nat) (ao : Option Addr) (c : Nat) (s : ByteArray) (w : World) (hs : s.size ≤ 1048576) (hc : Rd B w ao s.size (byteV s)) :
    Calls Try.prog 32 #[.slice ao s.size c, .string s] w fun e w' => e = .returned (.bool true) ∧ ∃ m, w' = w.drewN m := by
  go_enter Try.func32, Try.ntmps32
  go_wp2
  go_loopw [5] (fun i wr => ∃ k m : Nat, k ≤ s.size ∧ i = .int .i64 k ∧ wr = w.drewN m) (fun i _ => s.size - (intOf i).toNat)
  case atStart => exact ⟨0, 0, Nat.zero_le _, rfl, rfl⟩
  case round =>
    obtain ⟨k, m, hk, rfl, rfl⟩ := hrel
    by_cases hlt : k < s.size
    · obtain ⟨b, off, rfl, hbB, hcc⟩ := hc (by omega)
      have hck : w.cell? ⟨b, off + k, none⟩ = some (.int .u8 (s[k].toNat : Int)) := by rw [hcc k hlt, byteV_lt hlt]
      clear hcc hc
      go_wp2
      go_quiet (fail)
      go_wp2
      go_roundw
      case rel => exact ⟨k + 1, _, by omega, by go_num, rfl⟩
      case measure => simp [intOf]; omega
    · go_wp2
      go_ret
      exact ⟨rfl, _, rfl⟩
end Go.Proofs.Qxb6603657a
