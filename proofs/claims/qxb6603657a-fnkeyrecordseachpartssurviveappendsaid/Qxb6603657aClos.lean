/-
  THE CLOSURE of ZZeachCollect, walked. By an AI agent.
-/
import Derived.Test.Qxb6603657aCol
import Derived.Deep.DeepCutAuto
namespace Go.Proofs.Qxb6603657a
open Go.RowKit
set_option linter.unusedVariables false
theorem one_new (w : World) (M : Nat) (hM : w.heap.size = M) (x : Value) (t : TypeId) : ∀ j u, [x][j]? = some u → (w.alloc (.cells #[x] t)).cell? ((⟨M, 0, none⟩ : Addr).add j) = some u := by
  subst hM; exact cell_one_new w x t
theorem one_newD (w : World) (M : Nat) (hM : w.heap.size = M) (x : Value) (t : TypeId) : ∀ j u, [x][j]? = some u → (w.alloc (.cells #[x] t)).drew.cell? ((⟨M, 0, none⟩ : Addr).add j) = some u := one_new w M hM x t
theorem heap3 (w : World) (o o' o'' : Obj) (k : Nat) (h : k < w.heap.size) : (((w.alloc o).alloc o').alloc o'').drew.heap[k]? = w.heap[k]? := by
  show (((w.alloc o).alloc o').alloc o'').heap[k]? = _
  rw [Below.heap_alloc _ _ _ (by simp; omega), Below.heap_alloc _ _ _ (by simp; omega), Below.heap_alloc _ _ _ h]
theorem off_old {w : World} {base : Nat} {e : TypeId} {v : Value} {n : Nat} {xs : List Value} (h : w.ownsRow base e 1 v n xs) : v.ownBlock ≠ some w.heap.size := fun he => by have := (h.lt _ he).2; omega
theorem var_after {w w1 : World} {base b : Nat} {t e : TypeId} {v : Value} {xs : List Value} (h : Slot w base b t e v xs) (hg : w.grownBy w1 v.ownBlock) (hb : b < base) : w1.cell? ⟨b, 0, none⟩ = some v :=
  cell_of_one ((hg.block b h.lt (fun e => by have := (h.own.lt b e.symm).1; omega)).trans h.cell)
theorem varf_after {w w1 : World} {base b : Nat} {t e : TypeId} {v : Value} {xs : List Value} (h : Slot w base b t e v xs) (hg : w.grownBy w1 v.ownBlock) (hb : b < base) : w1.frozen? ⟨b, 0, none⟩ = false :=
  free_of_one ((hg.block b h.lt (fun e => by have := (h.own.lt b e.symm).1; omega)).trans h.cell)
theorem box_after {w w1 : World} {M b : Nat} {o : Obj} {v v' : Value} (hM : w.heap[M]? = some o) (hg : w.grownBy w1 v.ownBlock) (off : v.ownBlock ≠ some M) (hb : M ≠ b) : (w1.setCell ⟨b, 0, none⟩ v').heap[M]? = some o := by
  rw [Below.heap_setCell _ _ _ _ hb]
  exact (hg.block M (lt_of_block hM) (fun e => off e.symm)).trans hM
set_option maxRecDepth 100000 in
set_option maxHeartbeats 2000000 in
theorem clos_any (N : Nat) (v0 v1 v2 v3 v4 : Value) (x0 x1 x2 x3 x4 : List Value) (key : ByteArray) (a1 a2 : Option Addr) (r1 r2 : Nat) (ns s : Int) (w : World) (hC : Col w N v0 v1 v2 v3 v4 x0 x1 x2 x3 x4)
    (h0 : 0 ≤ ns) (h1 : ns < 1000000000) (s1 : -100000000000 ≤ s) (s2 : s ≤ 100000000000) (l0 : x0.length ≤ 65536) (l1 : x1.length ≤ 65536) (l2 : x2.length ≤ 65536) (l3 : x3.length ≤ 65536) (l4 : x4.length ≤ 65536) :
    Calls Try.prog 28 #[.string key, .slice a1 r1 r1, .slice a2 r2 r2, .agg #[.int .u64 ns, .int .i64 s, .pointer none], .pointer (some ⟨N, 0, none⟩), .pointer (some ⟨N + 1, 0, none⟩), .pointer (some ⟨N + 2, 0, none⟩), .pointer (some ⟨N + 3, 0, none⟩), .pointer (some ⟨N + 5, 0, none⟩), .pointer (some ⟨N + 4, 0, none⟩)] w fun e w' =>
      e = .returned (.tuple #[]) ∧ ∃ u0 u1 u2 u3 u4, Col w' N u0 u1 u2 u3 u4 (x0 ++ [.string key]) (x1 ++ [.slice a1 r1 r1]) (x2 ++ [.slice a2 r2 r2]) (x3 ++ [.int .i64 s]) (x4 ++ [.int .i64 ns]) ∧ Below N w w' := by
  obtain ⟨i9, hi9, z90, z91, z92⟩ := info_parts Try.info9
  obtain ⟨i48, hi48, z480, z481, z482⟩ := info_parts Try.info48
  obtain ⟨i2, hi2, z20, z21, z22⟩ := info_parts Try.info2
  have hz := hC.size
  have hM : (w.alloc (.cells #[.int .u64 ns, .int .i64 s, .pointer none] 60)).heap[w.heap.size]? = some (.cells #[.int .u64 ns, .int .i64 s, .pointer none] 60 (0, 0)) := heap_alloc_new w _
  have hC1 := hC.grown ((Below.refl _ _).alloc (Nat.le_refl _) (.cells #[.int .u64 ns, .int .i64 s, .pointer none] 60))
  have hB1 : Below N w (w.alloc (.cells #[.int .u64 ns, .int .i64 s, .pointer none] 60)) := (Below.refl _ _).alloc (by omega) _
  have o0 := off_old hC.s0.own
  have o1 := off_old hC.s1.own
  have o2 := off_old hC.s2.own
  have o3 := off_old hC.s3.own
  have o4 := off_old hC.s4.own
  clear hC
  go_enter Try.func28, Try.ntmps28
  go_upto_region 1 with fail
  go_cut [] (fun wx => ∃ u0, Col wx N u0 v1 v2 v3 v4 (x0 ++ [.string key]) x1 x2 x3 x4 ∧ Below N w wx ∧ wx.heap[w.heap.size]? = some (.cells #[.int .u64 ns, .int .i64 s, .pointer none] 60 (0, 0)))
  case first =>
    have hb0 : N < w.heap.size := by omega
    have q0 := cell_of_one hC1.s0.cell
    have hC2 := hC1.grown ((Below.refl _ _).alloc (Nat.le_refl _) (.cells #[.string key] 9))
    go_wp2_with (first
      | (at_builtin; refine wpList_append_own_at _ rfl (.tmp 14) (.tmp 16) 35 rfl (N + 6) 9 i9 (.string ByteArray.empty) 1 16 Try.underlying35 hi9 z90 z91 z92 rfl (by decide) v0 x0.length x0 rfl hC2.s0.own _ 1 1 [.string key] rfl rfl (one_new _ _ (by simp) _ _) (by simp [Value.oneCell']) (by unfold maxLen; omega) (by omega) hC2.size ?_; intro v' w1 hown hgr _ hat; obtain ⟨ao, cp, rfl⟩ := owns_form hown; have q1 := var_after hC2.s0 hgr (by omega); have p1 := varf_after hC2.s0 hgr (by omega)))
    go_meet
    obtain ⟨A, B⟩ := hC2.step0 hown hgr hat (Nat.le_refl _)
    exact ⟨_, A, (hB1.alloc (by simp; omega) _).trans B, box_after ((Below.heap_alloc _ _ _ (by simp)).trans hM) hgr o0 (by omega)⟩
  case rest =>
  clear hC1 hB1 hM o0
  obtain ⟨u0, hC1, hB1, hM⟩ := hcut
  go_upto_region 2 with fail
  go_cut [] (fun wx => ∃ u1, Col wx N u0 u1 v2 v3 v4 (x0 ++ [.string key]) (x1 ++ [.slice a1 r1 r1]) x2 x3 x4 ∧ Below N w wx ∧ wx.heap[w.heap.size]? = some (.cells #[.int .u64 ns, .int .i64 s, .pointer none] 60 (0, 0)))
  case first =>
    have hz1 := hC1.size
    have hb0 : N + 1 < wc.heap.size := by omega
    have q0 := cell_of_one hC1.s1.cell
    have hC2 := hC1.grown ((Below.refl _ _).alloc (Nat.le_refl _) (.cells #[.slice a1 r1 r1] 48))
    go_wp2_with (first
      | (at_builtin; refine wpList_append_own_at _ rfl (.tmp 18) (.tmp 20) 44 rfl (N + 6) 48 i48 (.slice none 0 0) 1 24 Try.underlying44 hi48 z480 z481 z482 rfl (by decide) v1 x1.length x1 rfl hC2.s1.own _ 1 1 [.slice a1 r1 r1] rfl rfl (one_new _ _ (by simp) _ _) (by simp [Value.oneCell']) (by unfold maxLen; omega) (by omega) hC2.size ?_; intro v' w1 hown hgr _ hat; obtain ⟨ao, cp, rfl⟩ := owns_form hown; have q1 := var_after hC2.s1 hgr (by omega); have p1 := varf_after hC2.s1 hgr (by omega)))
    go_meet
    obtain ⟨A, B⟩ := hC2.step1 hown hgr hat (Nat.le_refl _)
    exact ⟨_, A, (hB1.alloc (by omega) _).trans B, box_after ((Below.heap_alloc _ _ _ (lt_of_block hM)).trans hM) hgr o1 (by omega)⟩
  case rest =>
  clear hC1 hB1 hM o1
  obtain ⟨u1, hC1, hB1, hM⟩ := hcut
  go_upto_region 3 with fail
  go_cut [] (fun wx => ∃ u2, Col wx N u0 u1 u2 v3 v4 (x0 ++ [.string key]) (x1 ++ [.slice a1 r1 r1]) (x2 ++ [.slice a2 r2 r2]) x3 x4 ∧ Below N w wx ∧ wx.heap[w.heap.size]? = some (.cells #[.int .u64 ns, .int .i64 s, .pointer none] 60 (0, 0)))
  case first =>
    have hz1 := hC1.size
    have hb0 : N + 2 < wc.heap.size := by omega
    have q0 := cell_of_one hC1.s2.cell
    have hC2 := hC1.grown ((Below.refl _ _).alloc (Nat.le_refl _) (.cells #[.slice a2 r2 r2] 48))
    go_wp2_with (first
      | (at_builtin; refine wpList_append_own_at _ rfl (.tmp 22) (.tmp 24) 44 rfl (N + 6) 48 i48 (.slice none 0 0) 1 24 Try.underlying44 hi48 z480 z481 z482 rfl (by decide) v2 x2.length x2 rfl hC2.s2.own _ 1 1 [.slice a2 r2 r2] rfl rfl (one_new _ _ (by simp) _ _) (by simp [Value.oneCell']) (by unfold maxLen; omega) (by omega) hC2.size ?_; intro v' w1 hown hgr _ hat; obtain ⟨ao, cp, rfl⟩ := owns_form hown; have q1 := var_after hC2.s2 hgr (by omega); have p1 := varf_after hC2.s2 hgr (by omega)))
    go_meet
    obtain ⟨A, B⟩ := hC2.step2 hown hgr hat (Nat.le_refl _)
    exact ⟨_, A, (hB1.alloc (by omega) _).trans B, box_after ((Below.heap_alloc _ _ _ (lt_of_block hM)).trans hM) hgr o2 (by omega)⟩
  case rest =>
  clear hC1 hB1 hM o2
  obtain ⟨u2, hC1, hB1, hM⟩ := hcut
  go_upto_region 4 with fail
  go_cut [] (fun wx => ∃ u3, Col wx N u0 u1 u2 u3 v4 (x0 ++ [.string key]) (x1 ++ [.slice a1 r1 r1]) (x2 ++ [.slice a2 r2 r2]) (x3 ++ [.int .i64 s]) x4 ∧ Below N w wx ∧ wx.heap[w.heap.size]? = some (.cells #[.int .u64 ns, .int .i64 s, .pointer none] 60 (0, 0)))
  case first =>
    have hz1 := hC1.size
    have hb0 : N + 3 < wc.heap.size := by omega
    have hb5 : N + 5 < wc.heap.size := by omega
    have hbM : w.heap.size < wc.heap.size := lt_of_block hM
    have q0 := cell_of_one hC1.s3.cell
    have qa : ∀ o, (wc.alloc o).cell? ⟨N + 3, 0, none⟩ = some v3 := fun o => (World.cell?_alloc_lt _ _ _ hb0).trans q0
    have qb : ∀ o o', ((wc.alloc o).alloc o').cell? ⟨N + 3, 0, none⟩ = some v3 := fun o o' => (World.cell?_alloc_lt _ _ _ (by simp; omega)).trans (qa o)
    have qc : ∀ o o' o'', (((wc.alloc o).alloc o').alloc o'').cell? ⟨N + 3, 0, none⟩ = some v3 := fun o o' o'' => (World.cell?_alloc_lt _ _ _ (by simp; omega)).trans (qb o o')
    have m0 : wc.cell? ⟨w.heap.size, 0, none⟩ = some (.int .u64 ns) := by simp [World.cell?, hM]
    have m1 : wc.cell? ⟨w.heap.size, 1, none⟩ = some (.int .i64 s) := by simp [World.cell?, hM]
    have m2 : wc.cell? ⟨w.heap.size, 2, none⟩ = some (.pointer none) := by simp [World.cell?, hM]
    have y0 : wc.cell? ⟨N + 5, 0, none⟩ = some (.int .u64 0) := by simp [World.cell?, hC1.zero]
    have y1 : wc.cell? ⟨N + 5, 1, none⟩ = some (.int .i64 0) := by simp [World.cell?, hC1.zero]
    have y2 : wc.cell? ⟨N + 5, 2, none⟩ = some (.pointer none) := by simp [World.cell?, hC1.zero]
    have e1 : IntKind.i64.wrap s = s := by rw [IntKind.wrap_i64]; omega
    have hC2 := hC1.grown ((((Below.refl _ _).alloc (Nat.le_refl _) (.cells #[.int .u64 ns, .int .i64 s, .pointer none] 60)).alloc (by simp) (.cells #[.int .u64 0, .int .i64 0, .pointer none] 60)).alloc (by simp; omega) (.cells #[.int .i64 s] 2)).drew
    go_region_law (first
      | (go_simp; go_at_call 29; refine (unix_any _ _ (by omega) (by omega) (by omega) (by omega) _).mono ?_; rintro e w' ⟨rfl, rfl⟩)
      | (refine step_append_own_at rfl (.tmp 26) (.tmp 32) 22 rfl (N + 6) 2 i2 (.int .i64 0) 1 8 Try.underlying22 hi2 z20 z21 z22 rfl (by decide) v3 x3.length x3 rfl hC2.s3.own ⟨wc.heap.size + 1 + 1, 0, none⟩ 1 1 [.int .i64 s] rfl rfl (one_newD _ _ (by simp) _ _) (by simp [Value.oneCell']) (by unfold maxLen; omega) (by omega) hC2.size ?_; intro v' w1 hown hgr hat; obtain ⟨ao, cp, rfl⟩ := owns_form hown; have q1 := var_after hC2.s3 hgr (by omega); have p1 := varf_after hC2.s3 hgr (by omega)))
    all_goals
      go_wp2_with fail
      go_meet
      obtain ⟨A, B⟩ := hC2.step3 hown hgr hat (Nat.le_refl _)
      exact ⟨_, A, (hB1.trans (((((Below.refl N wc).alloc (by omega) _).alloc (by simp; omega) _).alloc (by simp; omega) _).drew)).trans B, box_after ((heap3 wc _ _ _ _ hbM).trans hM) hgr o3 (by omega)⟩
  case rest =>
  clear hC1 hB1 hM o3
  obtain ⟨u3, hC1, hB1, hM⟩ := hcut
  have hz1 := hC1.size
  have hb0 : N + 4 < wc.heap.size := by omega
  have hbM : w.heap.size < wc.heap.size := lt_of_block hM
  have q0 := cell_of_one hC1.s4.cell
  have qa : ∀ o, (wc.alloc o).cell? ⟨N + 4, 0, none⟩ = some v4 := fun o => (World.cell?_alloc_lt _ _ _ hb0).trans q0
  have qb : ∀ o o', ((wc.alloc o).alloc o').cell? ⟨N + 4, 0, none⟩ = some v4 := fun o o' => (World.cell?_alloc_lt _ _ _ (by simp; omega)).trans (qa o)
  have m0 : wc.cell? ⟨w.heap.size, 0, none⟩ = some (.int .u64 ns) := by simp [World.cell?, hM]
  have m1 : wc.cell? ⟨w.heap.size, 1, none⟩ = some (.int .i64 s) := by simp [World.cell?, hM]
  have m2 : wc.cell? ⟨w.heap.size, 2, none⟩ = some (.pointer none) := by simp [World.cell?, hM]
  have hC2 := hC1.grown (((Below.refl _ _).alloc (Nat.le_refl _) (.cells #[.int .u64 ns, .int .i64 s, .pointer none] 60)).alloc (by simp) (.cells #[.int .i64 ns] 2)).drew
  go_wp2_with fail
  go_region_law (first
    | (go_simp; go_at_call 30; refine (nano_any _ _ (by omega) (by omega) _).mono ?_; rintro e w' ⟨rfl, rfl⟩)
    | (refine step_append_own_at rfl (.tmp 34) (.tmp 37) 22 rfl (N + 6) 2 i2 (.int .i64 0) 1 8 Try.underlying22 hi2 z20 z21 z22 rfl (by decide) v4 x4.length x4 rfl hC2.s4.own ⟨wc.heap.size + 1, 0, none⟩ 1 1 [.int .i64 ns] rfl rfl (one_newD _ _ (by simp) _ _) (by simp [Value.oneCell']) (by unfold maxLen; omega) (by omega) hC2.size ?_; intro v' w1 hown hgr hat; obtain ⟨ao, cp, rfl⟩ := owns_form hown; have q1 := var_after hC2.s4 hgr (by omega); have p1 := varf_after hC2.s4 hgr (by omega)))
  all_goals
    go_wp2_with fail
    go_end0
    obtain ⟨A, B⟩ := hC2.step4 hown hgr hat (Nat.le_refl _)
    exact ⟨rfl, _, _, _, _, _, A, (hB1.trans ((((Below.refl N wc).alloc (by omega) _).alloc (by simp; omega) _).drew)).trans B⟩
end Go.Proofs.Qxb6603657a
