/-
  FIVE CAPTURED SLICES THAT ARE APPENDED TO: the relation, and what one append does to it; no walk here. By an AI agent.
-/
import Derived.Test.Qxb6603657aMid
import Derived.Maps.AppendAt
import Derived.Deep.RegionLaw
import Derived.OneCell
namespace Go.Proofs.Qxb6603657a
open Go.RowKit
set_option linter.unusedVariables false

/-- 'append' of what is owned, as one step of a region that draws its order. -/
theorem step_append_own_at {P : Program} {ops : Array Oper} {o : Oper} {a : Act} {w : World} {K : Act → World → Prop} {Q : Exit → Act → World → Prop} {E : Prop}
    (hg : o.guard = none) (s x : Operand) (t : TypeId) (hop : o.op = Op.call { callee := Callee.builtin Builtin.append, args := #[s, x], argTypes := #[t, t] })
    (base : Nat) (e : TypeId) (i : TypeInfo) (z : Value) (size bytes : Nat) (ht : P.underlying t = some (.slice e)) (hi : P.info? e = some i) (hz : i.zero = some z) (hsize : i.size = size) (hby : i.bytes = bytes) (hzs : z.cells.size = size) (hsz : 0 < size)
    (v : Value) (n : Nat) (xs : List Value) (hs : a.eval s = v) (hown : w.ownsRow base e size v n xs)
    (ad : Addr) (m c : Nat) (news : List Value) (hx : a.eval x = .slice (some ad) m c) (hl : news.length = m * size) (hnews : ∀ j u, news[j]? = some u → w.cell? (ad.add j) = some u) (h1 : ∀ u ∈ news, u.oneCell' = true)
    (h63 : n + m ≤ maxLen) (hbytes : (n + m) * bytes ≤ 140737488355328) (hbase : base ≤ w.heap.size)
    (hK : ∀ v' w', w'.ownsRow base e size v' (n + m) (xs ++ news) → w.grownBy w' v.ownBlock → (v'.ownBlock = v.ownBlock ∨ v'.ownBlock = some w.heap.size) → K (a.put o.dst v') w') :
    if Region.wanted o (yielded ops a.tmps) = true then Oper.wp P o a w K Q else E := by
  have hw : Region.wanted o (yielded ops a.tmps) = true := by simp [Region.wanted, hg]
  rw [if_pos hw]
  obtain ⟨v', w', hr, h2, h3, h4, h5⟩ := run_append_own_at (P := P) w base t o.type e i z size bytes ht hi hz hsize hby hzs hsz v n xs hown ad m c news hl hnews h1 h63 hbytes hbase
  unfold Oper.wp
  simp [execOp, hop, resolve, invoke, builtin, hs, hx, hr, Result.andThen]
  exact hK v' w' h2 h3 h5

theorem owns_form {w : World} {base : Nat} {e : TypeId} {v : Value} {n : Nat} {xs : List Value} (h : w.ownsRow base e 1 v n xs) : ∃ ao c, v = .slice ao n c := by
  rcases h.2 with ⟨hv, hn⟩ | ⟨g, cap, cur, hv, _⟩
  · exact ⟨none, 0, by rw [hv, hn]⟩
  · exact ⟨_, cap, hv⟩

/-- No array of the one is the other's. -/
def Far (v u : Value) : Prop := ∀ g, v.ownBlock = some g → u.ownBlock ≠ some g
theorem Far.symm {v u : Value} (h : Far v u) : Far u v := fun g hg hv => h g hv hg

/-- Block b is a variable that holds a slice value v, which owns xs among the blocks from 'base' on. -/
structure Slot (w : World) (base b : Nat) (t e : TypeId) (v : Value) (xs : List Value) : Prop where
  cell : w.heap[b]? = some (.cells #[v] t (0, 0))
  own : w.ownsRow base e 1 v xs.length xs

/-- w' is w but for new blocks, block b and block 'row'. -/
structure Upd (w w' : World) (b : Nat) (row : Option Nat) : Prop where
  os : w'.os = w.os
  tape : w'.tape = w.tape
  output : w'.output = w.output
  size : w.heap.size ≤ w'.heap.size
  block : ∀ k, k < w.heap.size → k ≠ b → some k ≠ row → w'.heap[k]? = w.heap[k]?
theorem Upd.below {w w' : World} {b : Nat} {row : Option Nat} (h : Upd w w' b row) {B : Nat} (hB : B ≤ w.heap.size) (hb : B ≤ b) (hr : ∀ g, row = some g → B ≤ g) : Below B w w' :=
  ⟨h.os, h.tape, h.output, h.size, fun k hk => h.block k (by omega) (by omega) (fun e => by have := hr k e.symm; omega)⟩

theorem Slot.lt {w : World} {base b : Nat} {t e : TypeId} {v : Value} {xs : List Value} (h : Slot w base b t e v xs) : b < w.heap.size := lt_of_block h.cell
theorem Slot.grown {w w' : World} {base b : Nat} {t e : TypeId} {v : Value} {xs : List Value} (h : Slot w base b t e v xs) (hb : Below w.heap.size w w') : Slot w' base b t e v xs :=
  ⟨(hb.block b h.lt).trans h.cell, h.own.kept (row := none) ⟨hb.os, hb.tape, hb.output, hb.size, fun k hk _ => hb.block k hk⟩ (by cases v.ownBlock <;> simp)⟩
theorem Slot.keep {w w' : World} {base b b' : Nat} {t e : TypeId} {u v : Value} {ys : List Value} (h : Slot w base b' t e u ys) (hU : Upd w w' b v.ownBlock) (hne : b' ≠ b) (hb' : b' < base) (hb : b < base) (hv : ∀ g, v.ownBlock = some g → base ≤ g) (far : Far u v) : Slot w' base b' t e u ys := by
  refine ⟨(hU.block b' h.lt hne (fun e => by have := hv b' e.symm; omega)).trans h.cell, ?_⟩
  obtain ⟨h1, h2⟩ := h.own
  refine ⟨h1, ?_⟩
  rcases h2 with h2 | ⟨g, cap, cur, hu, hg, hh, r⟩
  · exact .inl h2
  · have hgl : g < w.heap.size := lt_of_block hh
    refine .inr ⟨g, cap, cur, hu, hg, ?_, r⟩
    rw [hU.block g hgl (by omega) (fun e => far g (by rw [hu]; rfl) e.symm)]
    exact hh
theorem Slot.step {w w1 : World} {base b : Nat} {t e : TypeId} {v v' x : Value} {xs : List Value} (h : Slot w base b t e v xs) (hb : b < base)
    (hown : w1.ownsRow base e 1 v' (xs.length + 1) (xs ++ [x])) (hg : w.grownBy w1 v.ownBlock) : Slot (w1.setCell ⟨b, 0, none⟩ v') base b t e v' (xs ++ [x]) ∧ Upd w (w1.setCell ⟨b, 0, none⟩ v') b v.ownBlock := by
  have hv := h.own.lt
  have hcell : w1.heap[b]? = some (.cells #[v] t (0, 0)) := (hg.block b h.lt (fun e => by have := (hv b e.symm).1; omega)).trans h.cell
  refine ⟨⟨one_setCell hcell, ?_⟩, ⟨hg.os, hg.tape, hg.output, by simpa [World.setCell] using hg.size, fun k hk hkb hkr => ?_⟩⟩
  · have := ownsRow_setCell_below hown (a := ⟨b, 0, none⟩) hb v'
    simpa using this
  · rw [Below.heap_setCell _ _ _ _ hkb]
    exact hg.block k hk hkr
theorem far_step {w : World} {base : Nat} {e : TypeId} {v v' u : Value} {n M : Nat} {ys : List Value} (far : Far u v) (hu : w.ownsRow base e 1 u n ys) (hat : v'.ownBlock = v.ownBlock ∨ v'.ownBlock = some M) (hM : w.heap.size ≤ M) : Far u v' := by
  intro g hg hv'
  rcases hat with h | h
  · rw [h] at hv'; exact far g hg hv'
  · rw [h] at hv'
    have := (hu.lt g hg).2
    obtain rfl := Option.some.inj hv'
    omega

/-- The five variables of ZZeachCollect and its zero Time, at blocks N .. N + 5. -/
structure Col (w : World) (N : Nat) (v0 v1 v2 v3 v4 : Value) (x0 x1 x2 x3 x4 : List Value) : Prop where
  s0 : Slot w (N + 6) N 35 9 v0 x0
  s1 : Slot w (N + 6) (N + 1) 44 48 v1 x1
  s2 : Slot w (N + 6) (N + 2) 44 48 v2 x2
  s3 : Slot w (N + 6) (N + 3) 22 2 v3 x3
  s4 : Slot w (N + 6) (N + 4) 22 2 v4 x4
  zero : w.heap[N + 5]? = some (.cells #[.int .u64 0, .int .i64 0, .pointer none] 60 (0, 0))
  f01 : Far v0 v1
  f02 : Far v0 v2
  f03 : Far v0 v3
  f04 : Far v0 v4
  f12 : Far v1 v2
  f13 : Far v1 v3
  f14 : Far v1 v4
  f23 : Far v2 v3
  f24 : Far v2 v4
  f34 : Far v3 v4
section
variable {w w' w1 : World} {N M : Nat} {v0 v1 v2 v3 v4 v' x : Value} {x0 x1 x2 x3 x4 : List Value}
theorem Col.size (h : Col w N v0 v1 v2 v3 v4 x0 x1 x2 x3 x4) : N + 6 ≤ w.heap.size := by have := lt_of_block h.zero; omega
theorem Col.grown (h : Col w N v0 v1 v2 v3 v4 x0 x1 x2 x3 x4) (hb : Below w.heap.size w w') : Col w' N v0 v1 v2 v3 v4 x0 x1 x2 x3 x4 :=
  ⟨h.s0.grown hb, h.s1.grown hb, h.s2.grown hb, h.s3.grown hb, h.s4.grown hb, (hb.block _ (by have := h.size; omega)).trans h.zero, h.f01, h.f02, h.f03, h.f04, h.f12, h.f13, h.f14, h.f23, h.f24, h.f34⟩
theorem Col.step0 (h : Col w N v0 v1 v2 v3 v4 x0 x1 x2 x3 x4) (hown : w1.ownsRow (N + 6) 9 1 v' (x0.length + 1) (x0 ++ [x])) (hg : w.grownBy w1 v0.ownBlock) (hat : v'.ownBlock = v0.ownBlock ∨ v'.ownBlock = some M) (hM : w.heap.size ≤ M) :
    Col (w1.setCell ⟨N, 0, none⟩ v') N v' v1 v2 v3 v4 (x0 ++ [x]) x1 x2 x3 x4 ∧ Below N w (w1.setCell ⟨N, 0, none⟩ v') := by
  obtain ⟨S, U⟩ := h.s0.step (by omega) hown hg
  have hv := fun g hg => (h.s0.own.lt g hg).1
  have hz := h.size
  exact ⟨⟨S, h.s1.keep U (by omega) (by omega) (by omega) hv h.f01.symm, h.s2.keep U (by omega) (by omega) (by omega) hv h.f02.symm, h.s3.keep U (by omega) (by omega) (by omega) hv h.f03.symm, h.s4.keep U (by omega) (by omega) (by omega) hv h.f04.symm,
    (U.block _ (by omega) (by omega) (fun e => by have := hv _ e.symm; omega)).trans h.zero,
    (far_step h.f01.symm h.s1.own hat hM).symm, (far_step h.f02.symm h.s2.own hat hM).symm, (far_step h.f03.symm h.s3.own hat hM).symm, (far_step h.f04.symm h.s4.own hat hM).symm, h.f12, h.f13, h.f14, h.f23, h.f24, h.f34⟩, U.below (by omega) (Nat.le_refl _) (fun g hg => by have := hv g hg; omega)⟩
theorem Col.step1 (h : Col w N v0 v1 v2 v3 v4 x0 x1 x2 x3 x4) (hown : w1.ownsRow (N + 6) 48 1 v' (x1.length + 1) (x1 ++ [x])) (hg : w.grownBy w1 v1.ownBlock) (hat : v'.ownBlock = v1.ownBlock ∨ v'.ownBlock = some M) (hM : w.heap.size ≤ M) :
    Col (w1.setCell ⟨N + 1, 0, none⟩ v') N v0 v' v2 v3 v4 x0 (x1 ++ [x]) x2 x3 x4 ∧ Below N w (w1.setCell ⟨N + 1, 0, none⟩ v') := by
  obtain ⟨S, U⟩ := h.s1.step (by omega) hown hg
  have hv := fun g hg => (h.s1.own.lt g hg).1
  have hz := h.size
  exact ⟨⟨h.s0.keep U (by omega) (by omega) (by omega) hv h.f01, S, h.s2.keep U (by omega) (by omega) (by omega) hv h.f12.symm, h.s3.keep U (by omega) (by omega) (by omega) hv h.f13.symm, h.s4.keep U (by omega) (by omega) (by omega) hv h.f14.symm,
    (U.block _ (by omega) (by omega) (fun e => by have := hv _ e.symm; omega)).trans h.zero,
    far_step h.f01 h.s0.own hat hM, h.f02, h.f03, h.f04, (far_step h.f12.symm h.s2.own hat hM).symm, (far_step h.f13.symm h.s3.own hat hM).symm, (far_step h.f14.symm h.s4.own hat hM).symm, h.f23, h.f24, h.f34⟩, U.below (by omega) (by omega) (fun g hg => by have := hv g hg; omega)⟩
theorem Col.step2 (h : Col w N v0 v1 v2 v3 v4 x0 x1 x2 x3 x4) (hown : w1.ownsRow (N + 6) 48 1 v' (x2.length + 1) (x2 ++ [x])) (hg : w.grownBy w1 v2.ownBlock) (hat : v'.ownBlock = v2.ownBlock ∨ v'.ownBlock = some M) (hM : w.heap.size ≤ M) :
    Col (w1.setCell ⟨N + 2, 0, none⟩ v') N v0 v1 v' v3 v4 x0 x1 (x2 ++ [x]) x3 x4 ∧ Below N w (w1.setCell ⟨N + 2, 0, none⟩ v') := by
  obtain ⟨S, U⟩ := h.s2.step (by omega) hown hg
  have hv := fun g hg => (h.s2.own.lt g hg).1
  have hz := h.size
  exact ⟨⟨h.s0.keep U (by omega) (by omega) (by omega) hv h.f02, h.s1.keep U (by omega) (by omega) (by omega) hv h.f12, S, h.s3.keep U (by omega) (by omega) (by omega) hv h.f23.symm, h.s4.keep U (by omega) (by omega) (by omega) hv h.f24.symm,
    (U.block _ (by omega) (by omega) (fun e => by have := hv _ e.symm; omega)).trans h.zero,
    h.f01, far_step h.f02 h.s0.own hat hM, h.f03, h.f04, far_step h.f12 h.s1.own hat hM, h.f13, h.f14, (far_step h.f23.symm h.s3.own hat hM).symm, (far_step h.f24.symm h.s4.own hat hM).symm, h.f34⟩, U.below (by omega) (by omega) (fun g hg => by have := hv g hg; omega)⟩
theorem Col.step3 (h : Col w N v0 v1 v2 v3 v4 x0 x1 x2 x3 x4) (hown : w1.ownsRow (N + 6) 2 1 v' (x3.length + 1) (x3 ++ [x])) (hg : w.grownBy w1 v3.ownBlock) (hat : v'.ownBlock = v3.ownBlock ∨ v'.ownBlock = some M) (hM : w.heap.size ≤ M) :
    Col (w1.setCell ⟨N + 3, 0, none⟩ v') N v0 v1 v2 v' v4 x0 x1 x2 (x3 ++ [x]) x4 ∧ Below N w (w1.setCell ⟨N + 3, 0, none⟩ v') := by
  obtain ⟨S, U⟩ := h.s3.step (by omega) hown hg
  have hv := fun g hg => (h.s3.own.lt g hg).1
  have hz := h.size
  exact ⟨⟨h.s0.keep U (by omega) (by omega) (by omega) hv h.f03, h.s1.keep U (by omega) (by omega) (by omega) hv h.f13, h.s2.keep U (by omega) (by omega) (by omega) hv h.f23, S, h.s4.keep U (by omega) (by omega) (by omega) hv h.f34.symm,
    (U.block _ (by omega) (by omega) (fun e => by have := hv _ e.symm; omega)).trans h.zero,
    h.f01, h.f02, far_step h.f03 h.s0.own hat hM, h.f04, h.f12, far_step h.f13 h.s1.own hat hM, h.f14, far_step h.f23 h.s2.own hat hM, h.f24, (far_step h.f34.symm h.s4.own hat hM).symm⟩, U.below (by omega) (by omega) (fun g hg => by have := hv g hg; omega)⟩
theorem Col.step4 (h : Col w N v0 v1 v2 v3 v4 x0 x1 x2 x3 x4) (hown : w1.ownsRow (N + 6) 2 1 v' (x4.length + 1) (x4 ++ [x])) (hg : w.grownBy w1 v4.ownBlock) (hat : v'.ownBlock = v4.ownBlock ∨ v'.ownBlock = some M) (hM : w.heap.size ≤ M) :
    Col (w1.setCell ⟨N + 4, 0, none⟩ v') N v0 v1 v2 v3 v' x0 x1 x2 x3 (x4 ++ [x]) ∧ Below N w (w1.setCell ⟨N + 4, 0, none⟩ v') := by
  obtain ⟨S, U⟩ := h.s4.step (by omega) hown hg
  have hv := fun g hg => (h.s4.own.lt g hg).1
  have hz := h.size
  exact ⟨⟨h.s0.keep U (by omega) (by omega) (by omega) hv h.f04, h.s1.keep U (by omega) (by omega) (by omega) hv h.f14, h.s2.keep U (by omega) (by omega) (by omega) hv h.f24, h.s3.keep U (by omega) (by omega) (by omega) hv h.f34, S,
    (U.block _ (by omega) (by omega) (fun e => by have := hv _ e.symm; omega)).trans h.zero,
    h.f01, h.f02, h.f03, far_step h.f04 h.s0.own hat hM, h.f12, h.f13, far_step h.f14 h.s1.own hat hM, h.f23, far_step h.f24 h.s2.own hat hM, far_step h.f34 h.s3.own hat hM⟩, U.below (by omega) (by omega) (fun g hg => by have := hv g hg; omega)⟩
end
end Go.Proofs.Qxb6603657a
