/-
  ZZnewKeyRecord, ZZnewKeyRecords. By an AI agent.
-/
import Derived.Test.Qxb6603657aTime
namespace Go.Proofs.Qxb6603657a
open Go.RowKit
set_option linter.unusedVariables false

set_option maxHeartbeats 400000 in
theorem newRec_any (a c s k r n : Int) (d : Bool) (w : World) :
    Calls Try.prog 25 #[.int .i64 a, .int .i64 c, .int .i64 s, .int .i64 k, .int .i64 r, .int .i64 n, .bool d] w fun e w' =>
      e = .returned (.agg #[.int .u64 0, .int .i64 a, .int .i64 c, .int .i64 s, .int .i64 k, .int .i64 r, .int .i64 n, .bool d]) ∧
      w' = w.alloc (.cells #[.int .u64 0, .int .i64 a, .int .i64 c, .int .i64 s, .int .i64 k, .int .i64 r, .int .i64 n, .bool d] 55) := by
  go_enter Try.func25, Try.ntmps25
  go_wp2
  exact bodyPost_ret (v := .agg #[.int .u64 0, .int .i64 a, .int .i64 c, .int .i64 s, .int .i64 k, .int .i64 r, .int .i64 n, .bool d]) (by simp [results, Try.results25, go_sem]) rfl ⟨rfl, rfl⟩

/-- Block kb is a keyRecords: the cells that are read. -/
structure Kr (w : World) (kb : Nat) (bl ch : Value) (base front next fc ep : Int) : Prop where
  lt : kb < w.heap.size
  ep0 : w.cell? ⟨kb, 1, none⟩ = some (.int .u64 (ep % 1000000000))
  ep1 : w.cell? ⟨kb, 2, none⟩ = some (.int .i64 (ep / 1000000000))
  ep2 : w.cell? ⟨kb, 3, none⟩ = some (.pointer none)
  blocks : w.cell? ⟨kb, 6, none⟩ = some bl
  base : w.cell? ⟨kb, 7, none⟩ = some (.int .u64 base)
  front : w.cell? ⟨kb, 8, none⟩ = some (.int .u64 front)
  next : w.cell? ⟨kb, 9, none⟩ = some (.int .u64 next)
  chunks : w.cell? ⟨kb, 11, none⟩ = some ch
  fc : w.cell? ⟨kb, 12, none⟩ = some (.int .i64 fc)
theorem Kr.below {w w' : World} {kb : Nat} {bl ch : Value} {base front next fc ep : Int} (h : Kr w kb bl ch base front next fc ep) {B : Nat} (hb : Below B w w') (hB : kb < B) : Kr w' kb bl ch base front next fc ep :=
  ⟨Nat.lt_of_lt_of_le h.lt hb.size, (hb.cell (p := ⟨kb, 1, none⟩) hB).trans h.ep0, (hb.cell (p := ⟨kb, 2, none⟩) hB).trans h.ep1, (hb.cell (p := ⟨kb, 3, none⟩) hB).trans h.ep2, (hb.cell (p := ⟨kb, 6, none⟩) hB).trans h.blocks, (hb.cell (p := ⟨kb, 7, none⟩) hB).trans h.base,
    (hb.cell (p := ⟨kb, 8, none⟩) hB).trans h.front, (hb.cell (p := ⟨kb, 9, none⟩) hB).trans h.next, (hb.cell (p := ⟨kb, 11, none⟩) hB).trans h.chunks, (hb.cell (p := ⟨kb, 12, none⟩) hB).trans h.fc⟩

theorem kr_new (w : World) (bl ch : Value) (base front next held fc ep : Int) :
    Kr (w.alloc (.cells #[.nilFunc, .int .u64 (ep % 1000000000), .int .i64 (ep / 1000000000), .pointer none, .map none, .map none, bl, .int .u64 base, .int .u64 front, .int .u64 next, .int .i64 held, ch, .int .i64 fc] 78)) w.heap.size bl ch base front next fc ep :=
  ⟨by simp, by simp, by simp, by simp, by simp, by simp, by simp, by simp, by simp, by simp⟩

set_option maxHeartbeats 400000 in
theorem newRecs_any (bb nb cb nc : Nat) (base front next held fc ep : Int) (h1 : -9223372036854775808 ≤ ep) (h2 : ep ≤ 9223372036854775807) (w : World) :
    Calls Try.prog 26 #[.slice (some ⟨bb, 0, none⟩) nb nb, .int .u64 base, .int .u64 front, .int .u64 next, .int .i64 held, .slice (some ⟨cb, 0, none⟩) nc nc, .int .i64 fc, .int .i64 ep] w fun e w' =>
      ∃ kb, e = .returned (.pointer (some ⟨kb, 0, none⟩)) ∧ w.heap.size ≤ kb ∧ Kr w' kb (.slice (some ⟨bb, 0, none⟩) nb nb) (.slice (some ⟨cb, 0, none⟩) nc nc) base front next fc ep ∧ Below w.heap.size w w' := by
  go_enter Try.func26, Try.ntmps26
  go_wp2_with (go_at_call 37; refine (add_any 0 0 ep (by omega) (by omega) (by omega) (by omega) h1 h2 _).mono ?_; rintro e w1 ⟨rfl, hb⟩)
  go_ret
  exact ⟨_, rfl, hb.size, kr_new _ _ _ _ _ _ _ _ _, hb.alloc hb.size _⟩
end Go.Proofs.Qxb6603657a
