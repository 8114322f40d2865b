/-
  ZZeachCollect, walked. By an AI agent.
-/
import Derived.Test.Qxb6603657aEach
namespace Go.Proofs.Qxb6603657a
open Go.RowKit
set_option linter.unusedVariables false

theorem setSame {w : World} {b : Nat} {v : Value} {t : TypeId} (h : w.heap[b]? = some (.cells #[v] t (0, 0))) : w.setCell ⟨b, 0, none⟩ v = w := by
  have hh : (w.setCell ⟨b, 0, none⟩ v).heap = w.heap := by
    apply Array.ext_getElem?
    intro k
    by_cases e : k = b
    · subst e; rw [one_setCell h, h]
    · exact Below.heap_setCell w ⟨b, 0, none⟩ v k e
  have e : w.setCell ⟨b, 0, none⟩ v = { w with heap := (w.setCell ⟨b, 0, none⟩ v).heap } := rfl
  rw [e, hh]

theorem col_start (w : World) : Col ((((((w.alloc (.cells #[.slice none 0 0] 35)).alloc (.cells #[.slice none 0 0] 44)).alloc (.cells #[.slice none 0 0] 44)).alloc (.cells #[.slice none 0 0] 22)).alloc (.cells #[.slice none 0 0] 22)).alloc (.cells #[.int .u64 0, .int .i64 0, .pointer none] 60))
    w.heap.size (.slice none 0 0) (.slice none 0 0) (.slice none 0 0) (.slice none 0 0) (.slice none 0 0) [] [] [] [] [] := by
  have f : Far (.slice none 0 0) (.slice none 0 0) := fun g hg => by simp [Value.ownBlock] at hg
  refine ⟨⟨?_, World.ownsRow_nil _ _ _ _⟩, ⟨?_, World.ownsRow_nil _ _ _ _⟩, ⟨?_, World.ownsRow_nil _ _ _ _⟩, ⟨?_, World.ownsRow_nil _ _ _ _⟩, ⟨?_, World.ownsRow_nil _ _ _ _⟩, ?_, f, f, f, f, f, f, f, f, f, f⟩
  all_goals simp only [World.alloc, Array.getElem?_push, Array.size_push]
  all_goals (repeat' split)
  all_goals first | rfl | (exfalso; omega) | exact absurd trivial (by assumption)

set_option maxRecDepth 100000 in
set_option maxHeartbeats 2000000 in
theorem collect_any (B kb n ld : Nat) (K R A : Nat → ByteArray) (T : Nat → Int) (D : Nat → Bool) (base fc ep : Int) (w : World) (hL : Lay w B kb n ld K R A T D base fc ep)
    (hn : n ≤ 65536) (hO : offs K R A n ≤ 1048576) (hf0 : 0 ≤ fc) (hf1 : fc ≤ 9223372036854775807) (hb0 : 0 ≤ base) (hb1 : base + ld + n ≤ 18446744073709551615)
    (he1 : -9223372036854775808 ≤ ep) (he2 : ep ≤ 9223372036854775807) (hT : ∀ i, i < n → -9223372036854775808 ≤ T i ∧ T i ≤ 9223372036854775807) :
    Calls Try.prog 21 #[.pointer (some ⟨kb, 0, none⟩)] w fun e w' => ∃ (F G : Nat → Option Addr) (v0 v1 v2 v3 v4 : Value), e = .returned (.tuple #[v0, v1, v2, v3, v4]) ∧
      Col w' w.heap.size v0 v1 v2 v3 v4 (outK K D n) (outP R F D n) (outP A G D n) (outS T ep D n) (outN T ep D n) ∧
      (∀ i, i < n → D i = false → Rd B w (F i) (R i).size (byteV (R i)) ∧ Rd B w (G i) (A i).size (byteV (A i))) ∧ Below w.heap.size w w' := by
  have hB0 : B ≤ w.heap.size := by obtain ⟨_, _, _, _, _, _, _, _, h, _⟩ := hL; exact h
  have hb6 : Below w.heap.size w ((((((w.alloc (.cells #[.slice none 0 0] 35)).alloc (.cells #[.slice none 0 0] 44)).alloc (.cells #[.slice none 0 0] 44)).alloc (.cells #[.slice none 0 0] 22)).alloc (.cells #[.slice none 0 0] 22)).alloc (.cells #[.int .u64 0, .int .i64 0, .pointer none] 60)) :=
    ((((((Below.refl _ _).alloc (Nat.le_refl _) _).alloc (by simp) _).alloc (by simp; omega) _).alloc (by simp; omega) _).alloc (by simp; omega) _).alloc (by simp; omega) _
  have hL6 := hL.below (hb6.mono hB0)
  have hC6 := col_start w
  go_enter Try.func21, Try.ntmps21
  go_wp2_with (go_at_call 27; refine (each_any B w.heap.size kb n ld K R A T D base fc ep _ hL6 hB0 hC6 hn hO hf0 hf1 hb0 hb1 he1 he2 hT).mono ?_; rintro e w1 ⟨rfl, F, G, u0, u1, u2, u3, u4, hC, hR, hB⟩)
  obtain ⟨o0, k0, rfl⟩ := owns_form hC.s0.own
  obtain ⟨o1, k1, rfl⟩ := owns_form hC.s1.own
  obtain ⟨o2, k2, rfl⟩ := owns_form hC.s2.own
  obtain ⟨o3, k3, rfl⟩ := owns_form hC.s3.own
  obtain ⟨o4, k4, rfl⟩ := owns_form hC.s4.own
  have q0 := cell_of_one hC.s0.cell
  have q1 := cell_of_one hC.s1.cell
  have q2 := cell_of_one hC.s2.cell
  have q3 := cell_of_one hC.s3.cell
  have q4 := cell_of_one hC.s4.cell
  have f0 := free_of_one hC.s0.cell
  have f1 := free_of_one hC.s1.cell
  have f2 := free_of_one hC.s2.cell
  have f3 := free_of_one hC.s3.cell
  have f4 := free_of_one hC.s4.cell
  go_region
  go_wp2_with fail
  rw [setSame (b := w.heap.size) hC.s0.cell, setSame (b := w.heap.size + 1) hC.s1.cell, setSame (b := w.heap.size + 1 + 1) hC.s2.cell, setSame (b := w.heap.size + 1 + 1 + 1) hC.s3.cell, setSame (b := w.heap.size + 1 + 1 + 1 + 1) hC.s4.cell]
  refine bodyPost_ret (v := .tuple #[.slice o0 (outK K D n).length k0, .slice o1 (outP R F D n).length k1, .slice o2 (outP A G D n).length k2, .slice o3 (outS T ep D n).length k3, .slice o4 (outN T ep D n).length k4]) (by simp [results, Try.results21, go_sem, q0, q1, q2, q3, q4]) rfl ?_
  exact ⟨F, G, _, _, _, _, _, rfl, hC.grown (Below.refl _ _).drew, fun i hi hd => ⟨(hR i hi hd).1.back hb6 hB0, (hR i hi hd).2.back hb6 hB0⟩, (hb6.trans hB).drew⟩
end Go.Proofs.Qxb6603657a
