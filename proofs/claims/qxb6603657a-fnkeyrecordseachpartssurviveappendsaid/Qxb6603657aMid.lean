/-
  THE LAYING's RELATIONS, and what each round does to them; no walk here. By an AI agent.
-/
import Derived.Test.Qxb6603657aLaw
namespace Go.Proofs.Qxb6603657a
open Go.RowKit
set_option linter.unusedVariables false

theorem Try.info52 : (Try.prog.info? 52).map (fun i => (i.zero, i.size, i.bytes)) = some (some (.slice none 0 0), 1, 24) := by kernel_rfl
theorem Try.info48 : (Try.prog.info? 48).map (fun i => (i.zero, i.size, i.bytes)) = some (some (.slice none 0 0), 1, 24) := by kernel_rfl
theorem Try.info5 : (Try.prog.info? 5).map (fun i => (i.zero, i.size, i.bytes)) = some (some (.int .u8 0), 1, 1) := by kernel_rfl
theorem Try.info55 : (Try.prog.info? 55).map (fun i => (i.zero, i.size, i.bytes)) = some (some (.agg #[.int .u64 0, .int .i64 0, .int .i64 0, .int .i64 0, .int .i64 0, .int .i64 0, .int .i64 0, .bool false]), 8, 64) := by kernel_rfl

/-- 512 zero records. -/
def recZ : Array Value := madeCells (Value.agg #[.int .u64 0, .int .i64 0, .int .i64 0, .int .i64 0, .int .i64 0, .int .i64 0, .int .i64 0, .bool false]).cells 4096
theorem make_recs (w : World) : (Instr.makeSlice 52 (.int .i64 512) (.int .i64 512)).run Try.prog w = .ok (.slice (some ⟨w.heap.size, 0, none⟩) 512 512) (w.alloc (.cells recZ 55)) := by
  obtain ⟨i, hi, hz0, hz1, hz2⟩ := info_parts Try.info55
  have := run_make (P := Try.prog) w 52 55 i _ Try.underlying52 hi hz0 .i64 .i64 512 512 (by omega) (by omega) (by rw [hz2]; decide) (by omega)
  rw [hz1] at this
  exact this
theorem made_row (w : World) (z : Array Value) (n : Nat) (t : TypeId) : ∃ f, (w.alloc (.cells (madeCells z n) t)).rowIs w.heap.size t n f := by
  refine ⟨fun i => ((madeCells z n)[i]?).getD undef, madeCells z n, heap_alloc_new w _, size_madeCells _ _, fun i hi => ?_⟩
  have : i < (madeCells z n).size := by rw [size_madeCells]; exact hi
  simp [this]
theorem recs_row (w : World) : ∃ f, (w.alloc (.cells recZ 55)).rowIs w.heap.size 55 4096 f := made_row w _ 4096 55
theorem make_bytes (n : Nat) (hn : n ≤ 1048576) (w : World) : (Instr.makeSlice 48 (.int .i64 0) (.int .i64 (n : Int))).run Try.prog w = .ok (.slice (some ⟨w.heap.size, 0, none⟩) 0 n) (w.alloc (.cells (madeCells #[.int .u8 0] n) 5)) := by
  obtain ⟨i, hi, hz0, hz1, hz2⟩ := info_parts Try.info5
  have := run_make (P := Try.prog) w 48 5 i _ Try.underlying48 hi hz0 .i64 .i64 0 n (by omega) (by omega) (by rw [hz2]; omega) (by omega)
  rw [hz1, show (Value.int .u8 0).cells = #[.int .u8 0] from rfl] at this
  simpa using this
theorem make_one (w : World) : (Instr.makeSlice 44 (.int .i64 1) (.int .i64 1)).run Try.prog w = .ok (.slice (some ⟨w.heap.size, 0, none⟩) 1 1) (w.alloc (.cells #[.slice none 0 0] 48)) := by
  have := run_make_row' (P := Try.prog) 44 48 (.slice none 0 0) 24 Try.underlying44 Try.info48 rfl .i64 .i64 1 (by omega) (by omega) w
  rw [show madeCells #[Value.slice none 0 0] 1 = #[.slice none 0 0] from by apply Array.ext'; rw [toList_madeCells_one]; rfl] at this
  exact this

/-- Block N is the slice of the blocks' heads, the first b of them made: block N + 1 + j. -/
def heads (N b : Nat) : Nat → Value := fun j => if j < b then .slice (some ⟨N + 1 + j, 0, none⟩) 512 512 else .slice none 0 0

/-- The first k records lie in their blocks. -/
def Recs (w : World) (N nb ld k : Nat) (V : Nat → Nat → Value) : Prop :=
  ∀ j, j < nb → ∃ f, w.rowIs (N + 1 + j) 55 4096 f ∧ ∀ i, i < k → (ld + i) / 512 = j → ∀ t, t < 8 → f ((ld + i) % 512 * 8 + t) = V i t

/-- The first loop: b blocks are made. -/
structure One (w wr : World) (nb ld b : Nat) (V : Nat → Nat → Value) : Prop where
  row : wr.rowIs w.heap.size 52 nb (heads w.heap.size b)
  recs : Recs wr w.heap.size b ld 0 V
  bel : Below w.heap.size w wr
  size : wr.heap.size = w.heap.size + 1 + b
theorem one_start (w : World) (nb ld : Nat) (V : Nat → Nat → Value) : One w (w.alloc (.cells (madeCells #[.slice none 0 0] nb) 52)) nb ld 0 V :=
  ⟨(World.rowIs_made w _ nb 52).congr fun i _ => by simp [heads], fun j hj => absurd hj (by omega), (Below.refl _ _).alloc (Nat.le_refl _) _, by simp⟩
theorem one_step {w wr : World} {nb ld b : Nat} {V : Nat → Nat → Value} (h : One w wr nb ld b V) (hb : b < nb) :
    One w ((wr.alloc (.cells recZ 55)).setCell ⟨w.heap.size, b, none⟩ (.slice (some ⟨wr.heap.size, 0, none⟩) 512 512)) nb ld (b + 1) V := by
  have hz := h.size
  refine ⟨((h.row.alloc _).set b _).congr fun i hi => ?_, fun j hj => ?_, (h.bel.alloc (by omega) _).setCell (Nat.le_refl _) _, by simp [World.setCell]; omega⟩
  · unfold heads
    by_cases e : i = b
    · subst e; simp [hz]
    · by_cases g : i < b
      · simp [e, g, show i < b + 1 by omega]
      · simp [e, g, show ¬ i < b + 1 by omega]
  · by_cases e : j = b
    · subst e
      obtain ⟨f, hf⟩ := recs_row wr
      rw [hz] at hf
      exact ⟨f, hf.setOther (show w.heap.size + 1 + j ≠ w.heap.size by omega) _, fun i hi => absurd hi (by omega)⟩
    · obtain ⟨f, hf, hk⟩ := h.recs j (by omega)
      exact ⟨f, (hf.alloc _).setOther (show w.heap.size + 1 + j ≠ w.heap.size by omega) _, hk⟩

/-- The second loop, and what stays. -/
structure Two (w wr : World) (nb ld k : Nat) (V : Nat → Nat → Value) : Prop where
  row : wr.rowIs w.heap.size 52 nb (heads w.heap.size nb)
  recs : Recs wr w.heap.size nb ld k V
  bel : Below w.heap.size w wr
  size : w.heap.size + 1 + nb ≤ wr.heap.size
theorem One.two {w wr : World} {nb ld b : Nat} {V : Nat → Nat → Value} (h : One w wr nb ld b V) (hb : b = nb) : Two w wr nb ld 0 V := by
  subst hb
  exact ⟨h.row, h.recs, h.bel, by have := h.size; omega⟩
/-- What does not touch the blocks. -/
theorem Two.other {w wr w' : World} {nb ld k : Nat} {V : Nat → Nat → Value} (h : Two w wr nb ld k V) (hb : Below (w.heap.size + 1 + nb) wr w') : Two w w' nb ld k V :=
  ⟨h.row.of_block (hb.block _ (by omega)), fun j hj => by
    obtain ⟨f, hf, hk⟩ := h.recs j hj
    exact ⟨f, hf.of_block (hb.block _ (by omega)), hk⟩, h.bel.trans (hb.mono (by omega)), by have := hb.size; have := h.size; omega⟩
theorem Two.drewN {w wr : World} {nb ld k : Nat} {V : Nat → Nat → Value} (h : Two w wr nb ld k V) (m : Nat) : Two w (wr.drewN m) nb ld k V :=
  h.other ⟨rfl, rfl, rfl, Nat.le_refl _, fun _ _ => rfl⟩
theorem two_junk {w wr : World} {nb ld : Nat} {V : Nat → Nat → Value} (h : Two w wr nb ld 0 V) {j : Nat} (hj : j < nb) (p : Nat) (v0 v1 v2 v3 v4 v5 v6 v7 : Value) (o : Obj) :
    Two w (((((((((wr.setCell ⟨w.heap.size + 1 + j, p, none⟩ v0).setCell ⟨w.heap.size + 1 + j, p + 1, none⟩ v1).setCell ⟨w.heap.size + 1 + j, p + 2, none⟩ v2).setCell ⟨w.heap.size + 1 + j, p + 3, none⟩ v3).setCell ⟨w.heap.size + 1 + j, p + 4, none⟩ v4).setCell ⟨w.heap.size + 1 + j, p + 5, none⟩ v5).setCell ⟨w.heap.size + 1 + j, p + 6, none⟩ v6).setCell ⟨w.heap.size + 1 + j, p + 7, none⟩ v7).alloc o).drew nb ld 0 V := by
  have hz := h.size
  refine ⟨h.row.of_block (block8 wr _ _ _ _ _ _ _ _ _ _ _ _ _ _ _ _ _ o _ (by omega) (by omega)), fun j' hj' => ?_, below8 h.bel _ _ _ _ _ _ _ _ _ _ _ _ _ _ _ _ _ o (by omega) (by omega), by rw [size8]; omega⟩
  obtain ⟨f, hf, _⟩ := h.recs j' hj'
  by_cases e : j' = j
  · subst e
    obtain ⟨f', hf', _⟩ := row8 hf p v0 v1 v2 v3 v4 v5 v6 v7 o
    exact ⟨f', hf', fun i hi => absurd hi (by omega)⟩
  · exact ⟨f, hf.of_block (block8 wr _ _ _ _ _ _ _ _ _ _ _ _ _ _ _ _ _ o _ (by omega) (by omega)), fun i hi => absurd hi (by omega)⟩
theorem two_step {w wr : World} {nb ld k : Nat} {V : Nat → Nat → Value} (h : Two w wr nb ld k V) {j m : Nat} (hj : j < nb) (hq : ld + k = 512 * j + m) (hm : m < 512) (v0 v1 v2 v3 v4 v5 v6 v7 : Value) (o : Obj)
    (e0 : v0 = V k 0) (e1 : v1 = V k 1) (e2 : v2 = V k 2) (e3 : v3 = V k 3) (e4 : v4 = V k 4) (e5 : v5 = V k 5) (e6 : v6 = V k 6) (e7 : v7 = V k 7) :
    Two w (((((((((wr.setCell ⟨w.heap.size + 1 + j, m * 8, none⟩ v0).setCell ⟨w.heap.size + 1 + j, m * 8 + 1, none⟩ v1).setCell ⟨w.heap.size + 1 + j, m * 8 + 2, none⟩ v2).setCell ⟨w.heap.size + 1 + j, m * 8 + 3, none⟩ v3).setCell ⟨w.heap.size + 1 + j, m * 8 + 4, none⟩ v4).setCell ⟨w.heap.size + 1 + j, m * 8 + 5, none⟩ v5).setCell ⟨w.heap.size + 1 + j, m * 8 + 6, none⟩ v6).setCell ⟨w.heap.size + 1 + j, m * 8 + 7, none⟩ v7).alloc o).drew nb ld (k + 1) V := by
  have hz := h.size
  refine ⟨h.row.of_block (block8 wr _ _ _ _ _ _ _ _ _ _ _ _ _ _ _ _ _ o _ (by omega) (by omega)), fun j' hj' => ?_, below8 h.bel _ _ _ _ _ _ _ _ _ _ _ _ _ _ _ _ _ o (by omega) (by omega), by rw [size8]; omega⟩
  obtain ⟨f, hf, hk⟩ := h.recs j' hj'
  by_cases e : j' = j
  · subst e
    obtain ⟨f', hf', ⟨g0, g1, g2, g3, g4, g5, g6, g7⟩, hx⟩ := row8 hf (m * 8) v0 v1 v2 v3 v4 v5 v6 v7 o
    refine ⟨f', hf', fun i hi hij t ht => ?_⟩
    by_cases ei : i = k
    · subst ei
      have em : (ld + i) % 512 = m := by omega
      rw [em]
      have : t = 0 ∨ t = 1 ∨ t = 2 ∨ t = 3 ∨ t = 4 ∨ t = 5 ∨ t = 6 ∨ t = 7 := by omega
      rcases this with rfl | rfl | rfl | rfl | rfl | rfl | rfl | rfl
      · exact g0.trans e0
      · exact g1.trans e1
      · exact g2.trans e2
      · exact g3.trans e3
      · exact g4.trans e4
      · exact g5.trans e5
      · exact g6.trans e6
      · exact g7.trans e7
    · rw [hx _ (by omega), hk i (by omega) hij t ht]
  · refine ⟨f, hf.of_block (block8 wr _ _ _ _ _ _ _ _ _ _ _ _ _ _ _ _ _ o _ (by omega) (by omega)), fun i hi hij t ht => hk i ?_ hij t ht⟩
    by_cases ei : i = k
    · subst ei; omega
    · omega

theorem owns_of_block {w w' : World} {base : Nat} {e : TypeId} {size : Nat} {g L c : Nat} {n : Nat} {xs : List Value} (h : w.ownsRow base e size (.slice (some ⟨g, 0, none⟩) L c) n xs) (hb : w'.heap[g]? = w.heap[g]?) : w'.ownsRow base e size (.slice (some ⟨g, 0, none⟩) L c) n xs := by
  refine ⟨h.1, ?_⟩
  rcases h.2 with ⟨hv, _⟩ | ⟨g', cap, cur, hv, hbg, hh, r⟩
  · simp at hv
  · obtain ⟨rfl, _⟩ : g = g' ∧ _ := by simpa using hv
    exact .inr ⟨g, cap, cur, hv, hbg, hb.trans hh, r⟩
theorem owns_lt {w : World} {base : Nat} {e : TypeId} {size : Nat} {g L c : Nat} {n : Nat} {xs : List Value} (h : w.ownsRow base e size (.slice (some ⟨g, 0, none⟩) L c) n xs) : g < w.heap.size := (h.lt g rfl).2
theorem owns_cells {w : World} {base : Nat} {e : TypeId} {size : Nat} {g L c : Nat} {n : Nat} {xs : List Value} (h : w.ownsRow base e size (.slice (some ⟨g, 0, none⟩) L c) n xs) : ∀ x v, xs[x]? = some v → w.cell? ⟨g, x, none⟩ = some v := fun x v hv => by
  have := h.cells (g := g) rfl x v hv
  rwa [show (⟨g, 0, none⟩ : Addr).add x = ⟨g, x, none⟩ from by unfold Addr.add; split <;> simp_all] at this
/-- Behind a round's three appends: what was there below the chunk. -/
theorem grown_below {w w' : World} {CH B : Nat} (hg : w.grownBy w' (some CH)) (hB : B ≤ CH) (hz : B ≤ w.heap.size) : Below B w w' :=
  (Below.refl B w).grown hg hz fun k hk => by obtain rfl := Option.some.inj hk; exact hB

/-! ### what is laid -/
/-- The keyRecords at block kb, with all that it leads to, below block B. -/
def Lay (w : World) (B kb n ld : Nat) (K R A : Nat → ByteArray) (T : Nat → Int) (D : Nat → Bool) (base fc ep : Int) : Prop :=
  ∃ N nb cb ch, kb < B ∧ N + 1 + nb ≤ B ∧ cb < B ∧ ch < B ∧ B ≤ w.heap.size ∧ ld + n ≤ 512 * nb ∧ Kr w kb (.slice (some ⟨N, 0, none⟩) nb nb) (.slice (some ⟨cb, 0, none⟩) 1 1) base (base + ld) (base + (ld + n)) fc ep ∧
    (∀ j, j < nb → w.cell? ⟨N, j, none⟩ = some (.slice (some ⟨N + 1 + j, 0, none⟩) 512 512)) ∧
    (∀ i, i < n → ∀ t, t < 8 → w.cell? ⟨N + 1 + (ld + i) / 512, (ld + i) % 512 * 8 + t, none⟩ = some (recV K R A T D fc i t)) ∧
    w.cell? ⟨cb, 0, none⟩ = some (.slice (some ⟨ch, 0, none⟩) (offs K R A n) (offs K R A n)) ∧ ∀ x v, (cat K R A n)[x]? = some v → w.cell? ⟨ch, x, none⟩ = some v
theorem Lay.below {w w' : World} {B kb n ld : Nat} {K R A : Nat → ByteArray} {T : Nat → Int} {D : Nat → Bool} {base fc ep : Int} (h : Lay w B kb n ld K R A T D base fc ep) (hb : Below B w w') : Lay w' B kb n ld K R A T D base fc ep := by
  obtain ⟨N, nb, cb, ch, h1, h2, h3, h4, h5, h6, hk, hh, hr, hc, hx⟩ := h
  refine ⟨N, nb, cb, ch, h1, h2, h3, h4, Nat.le_trans h5 hb.size, h6, hk.below hb h1, fun j hj => (hb.cell (p := ⟨N, j, none⟩) (show N < B by omega)).trans (hh j hj), fun i hi t ht => (hb.cell (p := ⟨N + 1 + (ld + i) / 512, (ld + i) % 512 * 8 + t, none⟩) (show N + 1 + (ld + i) / 512 < B by omega)).trans (hr i hi t ht),
    (hb.cell (p := ⟨cb, 0, none⟩) h3).trans hc, fun x v hv => (hb.cell (p := ⟨ch, x, none⟩) h4).trans (hx x v hv)⟩
theorem lay_done {w wr w' : World} {nb ld n kb CH S : Nat} {K R A : Nat → ByteArray} {T : Nat → Int} {D : Nat → Bool} {base fc ep : Int} (h : Two w wr nb ld n (recV K R A T D fc)) (hln : ld + n ≤ 512 * nb)
    (hCH : w.heap.size + 1 + nb ≤ CH) (hS : S = offs K R A n) (hown : wr.ownsRow CH 5 1 (.slice (some ⟨CH, 0, none⟩) S S) S (cat K R A n))
    (hb : Below (wr.heap.size + 1) (wr.alloc (.cells #[.slice (some ⟨CH, 0, none⟩) S S] 48)) w') (hk : Kr w' kb (.slice (some ⟨w.heap.size, 0, none⟩) nb nb) (.slice (some ⟨wr.heap.size, 0, none⟩) 1 1) base (base + ld) (base + (ld + n)) fc ep) :
    Lay w' w'.heap.size kb n ld K R A T D base fc ep ∧ Below w.heap.size w w' := by
  have hz := h.size
  have hs := hb.size
  rw [World.size_alloc] at hs
  have hcl := owns_lt hown
  have hb2 : Below wr.heap.size wr w' := ((Below.refl _ _).alloc (Nat.le_refl _) _).trans (hb.mono (by omega))
  refine ⟨⟨w.heap.size, nb, wr.heap.size, CH, hk.lt, by omega, by omega, by omega, Nat.le_refl _, hln, hk, fun j hj => ?_, fun i hi t ht => ?_, ?_, fun x v hv => ?_⟩, h.bel.trans (hb2.mono (by omega))⟩
  · rw [hb2.cell (p := ⟨w.heap.size, j, none⟩) (show w.heap.size < wr.heap.size by omega), h.row.cell hj, heads, if_pos hj]
  · obtain ⟨f, hf, hr⟩ := h.recs ((ld + i) / 512) (by omega)
    rw [hb2.cell (p := ⟨w.heap.size + 1 + (ld + i) / 512, (ld + i) % 512 * 8 + t, none⟩) (show w.heap.size + 1 + (ld + i) / 512 < wr.heap.size by omega), hf.cell (by omega), hr i hi rfl t ht]
  · subst hS
    rw [hb.cell (p := ⟨wr.heap.size, 0, none⟩) (show wr.heap.size < wr.heap.size + 1 by omega)]
    simp
  · rw [hb2.cell (p := ⟨CH, x, none⟩) hcl]
    exact owns_cells hown x v hv
end Go.Proofs.Qxb6603657a
