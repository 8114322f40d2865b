/-
  labelStarts, walked: the array of 127 octets is filled within its capacity. By an AI agent.
-/
import Derived.Test.Qxb6603816aWire
import Derived.Deep.RegionHeld3
import Derived.ArgAppend
namespace Go.Proofs.Qxb6603816a
open Go.RowKit
set_option linter.unusedVariables false

/-- The array of label starts, empty. -/
def buf0 : Array Value := Array.replicate 127 (.int .u8 0)
theorem info46 : (Try.prog.info? 46).map (fun i => i.zero) = some (some (.agg buf0)) := by kernel_rfl
theorem zero46 (w : World) : (zeroValue 46).run Try.prog w = .ok (.agg buf0) w := by
  obtain ⟨i, hi, hz⟩ := Option.map_eq_some_iff.1 info46
  simp [zeroValue, typeInfo, hi, hz]
theorem buf0_row (w : World) : (w.alloc (.cells buf0 46)).rowIs w.heap.size 46 127 (fun _ => .int .u8 0) :=
  ⟨buf0, heap_alloc_new w _, by simp [buf0], fun i hi => by simp [buf0, hi]⟩

/-- 'append' of one element where there is room, whatever the array's type. -/
theorem wpList_append_room1 {P : Program} (w : World) {ops : Array Oper} {rest : List Oper} {o : Oper} {a : Act} {Q : Exit → Act → World → Prop}
    (hg : o.guard = none) (s x : Operand) (t : TypeId) (hop : o.op = Op.call { callee := Callee.builtin Builtin.append, args := #[s, x], argTypes := #[t, t] })
    (e : TypeId) (i : TypeInfo) (h1 : P.underlying t = some (.slice e)) (h2 : P.info? e = some i) (h4 : i.size = 1) (b n cap : Nat) (hs : a.eval s = .slice (some ⟨b, 0, none⟩) n cap) (ad : Addr) (u : Value) (hx : a.eval x = .slice (some ad) 1 1)
    (hc : ∀ j v, [u][j]? = some v → w.cell? (ad.add j) = some v) (hu : ∀ v ∈ [u], v.oneCell' = true) (hroom : n + 1 ≤ cap) (hcell : (w.cell? ⟨b, n, none⟩).isSome = true) (hfz : w.frozen? ⟨b, n, none⟩ = false)
    (hK : wpList P ops Q rest (a.put o.dst (.slice (some ⟨b, 0, none⟩) (n + 1) cap)) (w.setCell ⟨b, n, none⟩ u)) : wpList P ops Q (o :: rest) a w := by
  refine wpList_plain hg fun K hK' => ?_
  have hrun := run_append_room_cells (P := P) w t o.type e i h1 h2 b 0 n cap ad 1 1 [u] (by rw [h4]; rfl) hc hu hroom (fun j hj => by
    obtain rfl : j = 0 := by simpa using hj
    simpa [h4] using hcell) (fun j hj => by
    obtain rfl : j = 0 := by simpa using hj
    simpa [h4] using hfz)
  rw [h4] at hrun
  simp only [Nat.zero_add, Nat.mul_one, World.setCells] at hrun
  unfold Oper.wp
  simp [execOp, hop, resolve, invoke, builtin, hs, hx, hrun, Result.andThen]
  exact hK' _ _ hK

/-- Behind some rounds of labelStarts. -/
def LS (s : ByteArray) (L : List Nat) (b M : Nat) (w wr : World) (v : Value) (i : Nat) : Prop :=
  ∃ done rest f, L = done ++ rest ∧ Chain s i rest ∧ v = .slice (some ⟨b, 0, none⟩) done.length 127 ∧ wr.rowIs b 46 127 f ∧ (∀ j, j < done.length → f j = .int .u8 (done.getD j 0 : Nat)) ∧ wr.cell? ⟨M, 0, none⟩ = some (.string s) ∧ Below b w wr

theorem LS.alloc {s L b M w wr v i} (h : LS s L b M w wr v i) (o : Obj) : LS s L b M w (wr.alloc o) v i := by
  obtain ⟨done, rest, f, h1, h2, h3, h4, h5, h6, h7⟩ := h
  exact ⟨done, rest, f, h1, h2, h3, h4.alloc o, h5, (World.cell?_alloc_lt wr o ⟨M, 0, none⟩ (World.block_lt_of_cell? wr ⟨M, 0, none⟩ h6)).trans h6, h7.alloc (by have := h4.lt; omega) _⟩

set_option maxRecDepth 100000 in
set_option maxHeartbeats 1000000 in
theorem starts_any (s : ByteArray) (L : List Nat) (b : Nat) (f0 : Nat → Value) (w : World) (hW : Wire s L) (hrow : w.rowIs b 46 127 f0) :
    Calls Try.prog 29 #[.agg #[.string s], .slice (some ⟨b, 0, none⟩) 0 127] w fun e w' => e = .returned (.slice (some ⟨b, 0, none⟩) L.length 127) ∧ (∃ f, w'.rowIs b 46 127 f ∧ ∀ j, j < L.length → f j = .int .u8 (L.getD j 0 : Nat)) ∧ Below b w w' := by
  have hbl := hrow.lt
  rcases hW with ⟨h0, rfl⟩ | ⟨hs, hC⟩
  · have g0 : (s.size : Int) - 1 ≤ 0 := by omega
    have g1 : (s.size : Int) ≤ 0 := by omega
    clear h0
    have S := (hrow.alloc (.cells #[.string s] 35))
    go_enter Try.func29, Try.ntmps29
    go_wp2_with fail
    refine wp_loop_rounds 1 ?_
    rw [rounds_succ]
    go_wp2_with fail
    go_ret
    exact ⟨rfl, ⟨_, S, fun j hj => absurd hj (by simp)⟩, (Below.refl _ _).alloc (by omega) _⟩
  · obtain ⟨i5, hi5, z50, z51, z52⟩ := info_parts Try.info5
    have hLl := chain_len hC
    go_enter Try.func29, Try.ntmps29
    go_wp2_with fail
    go_loopw [1, 5] (fun v i wr => ∃ k : Nat, k ≤ s.size ∧ i = .int .i64 k ∧ LS s L b w.heap.size w wr v k) (fun _ i _ => s.size - (intOf i).toNat)
    case atStart => exact ⟨0, Nat.zero_le _, rfl, [], L, f0, rfl, hC, rfl, hrow.alloc _, fun j hj => absurd hj (by simp), by simp, (Below.refl _ _).alloc (by omega) _⟩
    case round =>
      clear hC hrow
      obtain ⟨k, hk, rfl, done, rest, f, hL, hC, rfl, hrow, hf, hcell, hB⟩ := hrel
      have HL : Hid (L = done ++ rest) := hL
      clear hL
      have hlen := chain_len hC
      have hk' : k < s.size := by omega
      have e1 := byteN_at hk'
      cases rest with
      | nil =>
        obtain ⟨c1, c2⟩ := hC
        have g1 : (s.size : Int) - 1 ≤ k := by omega
        have Hf : Hid (∀ j, j < done.length → f j = .int .u8 (done.getD j 0 : Nat)) := hf
        clear c2 c1 hf
        go_wp2_with fail
        go_ret
        have e := HL.out
        rw [List.append_nil] at e
        subst e
        exact ⟨rfl, ⟨f, hrow, Hf.out⟩, hB⟩
      | cons p rest =>
        obtain ⟨rfl, c1, c2, c3⟩ := hC
        have hdl : done.length < 127 := by have h := congrArg List.length HL.out; rw [List.length_append] at h; simp at h; omega
        have LSn : ∀ w1, w1.rowIs b 46 127 f → w1.cell? ⟨w.heap.size, 0, none⟩ = some (.string s) → Below b w w1 → LS s L b w.heap.size w (w1.setCell ⟨b, done.length, none⟩ (.int .u8 p)) (.slice (some ⟨b, 0, none⟩) (done.length + 1) 127) (p + 1 + byteN s p) := fun w1 hr hc hb =>
          ⟨done ++ [p], rest, _, by rw [HL.out, List.append_assoc]; rfl, c3, by simp, hr.set done.length _, fun j hj => by
            show (if j = done.length then _ else f j) = _
            by_cases e : j = done.length
            · subst e; simp [List.getD]
            · have hj' : j < done.length := by simp at hj; omega
              rw [if_neg e, hf j hj']
              simp [List.getD, List.getElem?_append_left hj'],
            (World.cell?_of_block (w := w1) (Below.heap_setCell w1 ⟨b, done.length, none⟩ _ w.heap.size (show w.heap.size ≠ b by omega))).trans hc, hb.setCell (p := ⟨b, done.length, none⟩) (Nat.le_refl _) _⟩
        obtain ⟨l, hl⟩ : ∃ l, l = byteN s p := ⟨_, rfl⟩
        rw [← hl] at e1 c1 c2 LSn
        have HN := show Hid _ from LSn
        clear c3 hl LSn hf
        have g1 : (p : Int) < s.size - 1 := by omega
        have bl : l < 256 := by omega
        have hsz := hB.size
        have hbl' : b < wr.heap.size := by omega
        have hM : w.heap.size < wr.heap.size := World.block_lt_of_cell? wr ⟨w.heap.size, 0, none⟩ hcell
        have q0 : ∀ o, (wr.alloc o).cell? ⟨b, done.length, none⟩ = some (f done.length) := fun o => (hrow.alloc o).cell hdl
        have q1 : ∀ o, (wr.alloc o).frozen? ⟨b, done.length, none⟩ = false := fun o => (hrow.alloc o).frozen _
        have q2 : ∀ o, (wr.alloc o).cell? ⟨w.heap.size, 0, none⟩ = some (.string s) := fun o => (World.cell?_alloc_lt wr o ⟨w.heap.size, 0, none⟩ hM).trans hcell
        have nb : w.heap.size ≠ b := by omega
        go_wp2_with (first
          | (at_builtin; (refine wpList_append_room1 _ rfl (.tmp 20) (.tmp 23) 22 rfl 5 i5 Try.underlying22 hi5 z51 b done.length 127 rfl _ (.int .u8 p) rfl (one_new _ _ rfl _ _) (by simp [Value.oneCell']) (by omega) (by rw [q0]; rfl) (q1 _) ?_)))
        refine ⟨⟨p + 1 + l, by omega, by congr 1; omega, (HN.out _ hrow hcell hB).alloc _⟩, ?_⟩
        simp [intOf]
        omega
end Go.Proofs.Qxb6603816a
