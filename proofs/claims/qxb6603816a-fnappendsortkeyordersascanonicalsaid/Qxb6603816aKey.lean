/-
  appendSortKey, walked. By an AI agent.
-/
import Derived.Test.Qxb6603816aStarts
import Derived.Laws.IdiomStrings
import Derived.Deep.RegionLaw
namespace Go.Proofs.Qxb6603816a
open Go.RowKit
set_option linter.unusedVariables false

/-- '[]byte(label)'. -/
theorem conv_new (lb : ByteArray) : ∃ (cap : World → Nat) (ob : World → Obj), (∀ W : World, (convert 9 22 (.string lb)).run Try.prog W = .ok (.slice (some ⟨W.heap.size, 0, none⟩) lb.size (cap W)) (W.drew.alloc (ob W))) ∧
    ∀ (W : World) (j : Nat), j < lb.size → (W.drew.alloc (ob W)).cell? ⟨W.heap.size, j, none⟩ = some (.int .u8 (byteN lb j : Nat)) := by
  refine ⟨_, _, fun W => run_bytes_of_string (P := Try.prog) W 9 22 5 lb Try.underlying9 Try.underlying22 Try.underlying5, fun W j hj => ?_⟩
  have h := heap_alloc_new W.drew (.cells (bytesRow lb (grownCap W lb.size 0 5)) 5 ((bytesRow lb (grownCap W lb.size 0 5)).size, (bytesRow lb (grownCap W lb.size 0 5)).size + 1))
  have hj' : j < lb.data.size := hj
  have e : (bytesRow lb (grownCap W lb.size 0 5))[j]? = some (.int .u8 (byteN lb j : Nat)) := by
    rw [← byteN_at hj, bytesRow, Array.getElem?_append_left (by rw [Array.size_map]; exact hj'), Array.getElem?_map, Array.getElem?_eq_getElem hj']
    rfl
  show (W.drew.alloc _).cell? ⟨W.drew.heap.size, j, none⟩ = _
  simp only [World.cell?, h]
  exact e

/-- Numbers, as octets. -/
def vals (xs : List Nat) : List Value := xs.map fun c => .int .u8 (c : Nat)
theorem vals_length (xs : List Nat) : (vals xs).length = xs.length := by simp [vals]
theorem vals_append (xs ys : List Nat) : vals (xs ++ ys) = vals xs ++ vals ys := by simp [vals]

/-- The key of the last k labels. -/
def keyK (s : ByteArray) (L : List Nat) (k : Nat) : List Nat := keyR ((L.reverse.take k).map fun p => bts (lab s p))
theorem keyK_zero (s : ByteArray) (L : List Nat) : keyK s L 0 = [] := by simp [keyK, keyR]
theorem keyK_succ (s : ByteArray) (L : List Nat) {k : Nat} (h : k < L.length) : keyK s L (k + 1) = keyK s L k ++ encL (bts (lab s (L.getD (L.length - 1 - k) 0))) := by
  have hk : k < L.reverse.length := by rw [List.length_reverse]; exact h
  rw [keyK, keyK, List.take_succ_eq_append_getElem hk]
  simp [keyR, List.getD, show L.length - 1 - k < L.length by omega]
theorem keyK_all (s : ByteArray) (L : List Nat) : keyK s L L.length = keyR (L.reverse.map fun p => bts (lab s p)) := by
  rw [keyK, List.take_of_length_le (by simp)]
theorem enc1_length (c : Nat) : (enc1 c).length ≤ 2 := by unfold enc1; split <;> simp
theorem flat_length : ∀ l : List Nat, (l.flatMap enc1).length ≤ 2 * l.length
  | [] => by simp
  | a :: l => by have := flat_length l; have := enc1_length a; simp only [List.flatMap_cons, List.length_append, List.length_cons]; omega
theorem lab_size (s : ByteArray) (p : Nat) : (lab s p).size ≤ 255 := by
  have := byteN_lt s p
  simp [lab]
  omega
theorem encL_length (s : ByteArray) (p : Nat) : (encL (bts (lab s p))).length ≤ 512 := by
  have h := flat_length (bts (lab s p))
  have := lab_size s p
  rw [bts_length] at h
  simp only [encL, List.length_append, List.length_cons, List.length_nil]
  omega
theorem keyK_length (s : ByteArray) (L : List Nat) : ∀ {k : Nat}, k ≤ L.length → (keyK s L k).length ≤ 512 * k
  | 0, _ => by simp [keyK_zero]
  | k + 1, h => by
    have := keyK_length s L (k := k) (by omega)
    have := encL_length s (L.getD (L.length - 1 - k) 0)
    rw [keyK_succ s L (by omega), List.length_append]
    omega
theorem chain_at {s : ByteArray} : ∀ {L : List Nat} {i : Nat}, Chain s i L → ∀ j, j < L.length → L.getD j 0 + 1 + byteN s (L.getD j 0) < s.size
  | [], _, _, j, hj => absurd hj (by simp)
  | p :: L, i, ⟨e, _, h, hC⟩, 0, _ => by subst e; simpa [List.getD] using h
  | p :: L, i, ⟨e, _, h, hC⟩, j + 1, hj => by
    have := chain_at hC j (by simpa using hj)
    simpa [List.getD] using this
theorem wire_at {s : ByteArray} {L : List Nat} (h : Wire s L) : L.length ≤ 127 ∧ s.size ≤ 255 ∧ ∀ j, j < L.length → L.getD j 0 + 1 + byteN s (L.getD j 0) < s.size := by
  rcases h with ⟨h, rfl⟩ | ⟨h, hC⟩
  · exact ⟨by simp, by omega, fun j hj => absurd hj (by simp)⟩
  · have := chain_len hC
    exact ⟨by omega, h, chain_at hC⟩
theorem owns_base {w : World} {b b' : Nat} {e : TypeId} {v : Value} {n : Nat} {xs : List Value} (h : w.ownsRow b e 1 v n xs) (hb : b' ≤ b) : w.ownsRow b' e 1 v n xs := by
  refine ⟨h.1, ?_⟩
  rcases h.2 with h | ⟨g, cap, cur, h1, h2, h3⟩
  · exact .inl h
  · exact .inr ⟨g, cap, cur, h1, by omega, h3⟩
theorem two_new (w : World) (M : Nat) (hM : w.heap.size = M) (x y : Value) (t : TypeId) : ∀ j u, [x, y][j]? = some u → (w.alloc (.cells #[x, y] t)).cell? ((⟨M, 0, none⟩ : Addr).add j) = some u := by
  subst hM
  intro j u hj
  match j, hj with
  | 0, hj => simp at hj; subst hj; simp [Addr.add]
  | 1, hj => simp at hj; subst hj; simp [Addr.add]
  | j + 2, hj => simp at hj

theorem below_drew (B : Nat) (w : World) : Below B w w.drew := ⟨rfl, rfl, rfl, Nat.le_refl _, fun _ _ => rfl⟩
theorem two_below {B M m p : Nat} {s : ByteArray} {W W' : World} (h : W.cell? ⟨M, 0, none⟩ = some (.string s) ∧ W.cell? ⟨M + 1, m, none⟩ = some (.int .u8 (p : Nat))) (hb : Below B W W') (hM : M + 1 < B) :
    W'.cell? ⟨M, 0, none⟩ = some (.string s) ∧ W'.cell? ⟨M + 1, m, none⟩ = some (.int .u8 (p : Nat)) :=
  ⟨(hb.cell (p := ⟨M, 0, none⟩) (show M < B by omega)).trans h.1, (hb.cell (p := ⟨M + 1, m, none⟩) hM).trans h.2⟩
/-- Behind some rounds of the outer loop. -/
def KO (s : ByteArray) (L : List Nat) (N : Nat) (W1 wr : World) (v : Value) (k : Nat) : Prop :=
  wr.ownsRow N 5 1 v (keyK s L k).length (vals (keyK s L k)) ∧ Below N W1 wr
/-- Behind some rounds of the inner loop. -/
def KI (lb : ByteArray) (xs : List Nat) (N l : Nat) (W1 wr : World) (v : Value) (j : Nat) : Prop :=
  wr.ownsRow N 5 1 v (xs ++ ((bts lb).take j).flatMap enc1).length (vals (xs ++ ((bts lb).take j).flatMap enc1)) ∧ Below N W1 wr ∧ (∀ j, j < lb.size → wr.cell? ⟨l, j, none⟩ = some (.int .u8 (byteN lb j : Nat))) ∧ v.ownBlock ≠ some l

/-- What lies in b behind j rounds of the inner loop. -/
def ysOf (lb : ByteArray) (xs : List Nat) (j : Nat) : List Nat := xs ++ ((bts lb).take j).flatMap enc1
theorem ysOf_zero (lb : ByteArray) (xs : List Nat) : ysOf lb xs 0 = xs := by simp [ysOf]
theorem ysOf_succ (lb : ByteArray) (xs : List Nat) {j : Nat} (h : j < lb.size) : ysOf lb xs (j + 1) = ysOf lb xs j ++ enc1 (byteN lb j) := by
  have hj : j < (bts lb).length := by rw [bts_length]; exact h
  rw [ysOf, ysOf, List.take_succ_eq_append_getElem hj, List.flatMap_append, ← List.append_assoc]
  congr 1
  simp [byteN, List.getD, hj]
theorem ysOf_all (lb : ByteArray) (xs : List Nat) : ysOf lb xs lb.size ++ [0, 0] = xs ++ encL (bts lb) := by
  rw [ysOf, List.take_of_length_le (by rw [bts_length]; exact Nat.le_refl _), encL, List.append_assoc]
theorem ysOf_length (lb : ByteArray) (xs : List Nat) {j : Nat} (h : j ≤ lb.size) : (ysOf lb xs j).length ≤ xs.length + 2 * lb.size := by
  have := flat_length ((bts lb).take j)
  rw [ysOf, List.length_append]
  simp only [List.length_take] at this
  omega
theorem owns_below {w w' : World} {N n : Nat} {v : Value} {e : TypeId} {xs : List Value} (h : w.ownsRow N e 1 v n xs) (hb : Below w.heap.size w w') : w'.ownsRow N e 1 v n xs := by
  refine ⟨h.1, ?_⟩
  rcases h.2 with h | ⟨g, cap, cur, h1, h2, h3, h4⟩
  · exact .inl h
  · exact .inr ⟨g, cap, cur, h1, h2, (hb.block g (Array.getElem?_eq_some_iff.1 h3).1).trans h3, h4⟩
theorem KI.step {lb : ByteArray} {xs : List Nat} {N l j : Nat} {w1 wr w' : World} {v v' : Value} (h : KI lb xs N l w1 wr v j) (hj : j < lb.size) (hNw : N ≤ wr.heap.size) (o : Obj)
    (hown : w'.ownsRow N 5 1 v' ((ysOf lb xs j).length + (enc1 (byteN lb j)).length) (vals (ysOf lb xs j) ++ vals (enc1 (byteN lb j)))) (hgr : (wr.alloc o).grownBy w' v.ownBlock) (hat : v'.ownBlock = v.ownBlock ∨ v'.ownBlock = some (wr.alloc o).heap.size) :
    KI lb xs N l w1 w' v' (j + 1) := by
  obtain ⟨h1, h2, h3, h4⟩ := h
  have hl : l < wr.heap.size := World.block_lt_of_cell? wr ⟨l, j, none⟩ (h3 j hj)
  have e := ysOf_succ lb xs hj
  unfold ysOf at e hown
  refine ⟨?_, (h2.alloc hNw o).grown hgr (by simp; omega) (fun k hk => (h1.lt k hk).1), fun i hi => hgr.cell (a := ⟨l, i, none⟩) ((World.cell?_alloc_lt wr o ⟨l, i, none⟩ hl).trans (h3 i hi)) (fun e => h4 e.symm), ?_⟩
  · rw [e, List.length_append, vals_append]
    exact hown
  · rcases hat with e | e
    · rw [e]; exact h4
    · rw [e]
      intro h
      have := Option.some.inj h
      simp at this
      omega

set_option maxRecDepth 100000 in
set_option maxHeartbeats 1000000 in
theorem key_any (s : ByteArray) (L : List Nat) (w : World) (hW : Wire s L) :
    Calls Try.prog 27 #[.agg #[.string s], .slice none 0 0] w fun e w' => ∃ v, e = .returned v ∧ w'.ownsRow w.heap.size 5 1 v (keyR (L.reverse.map fun p => bts (lab s p))).length (vals (keyR (L.reverse.map fun p => bts (lab s p)))) ∧ Below w.heap.size w w' := by
  obtain ⟨i5, hi5, z50, z51, z52⟩ := info_parts Try.info5
  have hz := zero46
  obtain ⟨hL, hs, hat⟩ := wire_at hW
  have Hat : Hid (∀ j, j < L.length → L.getD j 0 + 1 + byteN s (L.getD j 0) < s.size) := hat
  rw [← keyK_all]
  clear hat
  go_enter Try.func27, Try.ntmps27
  go_wp2_with fail
  have k0 : (((w.alloc (.cells #[.string s] 35)).alloc (.cells buf0 46)).drew).cell? ⟨w.heap.size, 0, none⟩ = some (.string s) :=
    (World.cell?_alloc_lt _ _ ⟨w.heap.size, 0, none⟩ (by simp)).trans (by simp)
  go_region_held3 (fun W => W.cell? ⟨w.heap.size, 0, none⟩ = some (.string s))
    (first | with_reducible exact k0 | with_reducible exact k1)
    (first
      | (go_at_call 29; refine (starts_any s L (w.heap.size + 1) _ _ hW (by have := buf0_row (w.alloc (.cells #[.string s] 35)); rw [World.size_alloc] at this; exact this)).mono ?_; rintro e w1 ⟨rfl, ⟨f, hr, hf⟩, hB1⟩; have k1 := (hB1.cell (p := ⟨w.heap.size, 0, none⟩) (Nat.lt_succ_self _)).trans k0))
  have hBw : Below w.heap.size w w1 := ((((Below.refl w.heap.size w).alloc (Nat.le_refl _) _).alloc (by simp) _).trans (below_drew _ _)).trans (hB1.mono (Nat.le_succ _))
  have hN : w.heap.size + 1 < w1.heap.size := hr.lt
  have st : ∀ j, j < L.length → w1.cell? ⟨w.heap.size + 1, j, none⟩ = some (.int .u8 (L.getD j 0 : Nat)) := fun j hj => by rw [← hf j hj]; exact hr.cell (by omega)
  obtain ⟨N, hNe⟩ : ∃ N, N = w1.heap.size := ⟨_, rfl⟩
  rw [← hNe] at hN
  have HNe : Hid (N = w1.heap.size) := hNe
  have Hst : Hid (∀ j, j < L.length → w1.cell? ⟨w.heap.size + 1, j, none⟩ = some (.int .u8 (L.getD j 0 : Nat))) := st
  clear k0 hz hr hf hB1 hW hNe st
  go_wp2_with fail
  go_loopw [1, 7] (fun v i wr => ∃ k m : Nat, k + m = L.length ∧ i = .int .i64 ((m : Int) - 1) ∧ KO s L N w1 wr v k) (fun _ i _ => ((intOf i) + 1).toNat)
  case atStart => exact ⟨0, L.length, Nat.zero_add _, rfl, by rw [keyK_zero]; exact World.ownsRow_nil _ _ _ _, Below.refl _ _⟩
  case round =>
    obtain ⟨k, m, hk, rfl, hown, hB⟩ := hrel
    cases m with
    | succ m =>
      have hml : m < L.length := by omega
      have em : (((m + 1 : Nat) : Int) - 1) = m := by omega
      rw [em]
      clear em
      have hkm : L.length - 1 - k = m := by omega
      have HKs := show Hid _ from keyK_succ s L (k := k) (by omega)
      rw [hkm] at HKs
      obtain ⟨p, hp⟩ : ∃ p, p = L.getD m 0 := ⟨_, rfl⟩
      have hpat := Hat.out m hml
      have st := Hst.out m hml
      rw [← hp] at HKs hpat st
      obtain ⟨lb, hlb⟩ : ∃ lb, lb = lab s p := ⟨_, rfl⟩
      have hlbs := lab_size s p
      have hlab := fun W => label_any s p W hs hpat
      rw [← hlb] at HKs hlbs hlab
      have Hlab : Hid (∀ W, Calls Try.prog 30 #[.agg #[.string s], .int .u8 p] W fun e w' => e = .returned (.string lb) ∧ Below W.heap.size W w') := hlab
      have hlen := keyK_length s L (k := k) (by omega)
      have hNw : N ≤ wr.heap.size := by have := hB.size; have := HNe.out; omega
      have hml' : (m : Int) < L.length := by omega
      obtain ⟨cap, ob, hcv, hcc⟩ := conv_new lb
      have k0 := two_below ⟨k1, st⟩ (hB.trans (below_drew _ _)) hN
      clear k1 st hkm hp hpat hlb hlab
      have Hcc := show Hid _ from hcc
      clear hcc
      go_wp2_with fail
      obtain ⟨k01, k02⟩ := k0
      go_region_law (first
          | (go_simp; go_at_call 30; refine (Hlab.out _).mono ?_; rintro e wA ⟨rfl, hA⟩))
      all_goals
        have hAw : wr.heap.size ≤ wA.heap.size := hA.size
        have hBA : Below wr.heap.size wr (wA.alloc (ob wA)).drew := ((((below_drew wr.heap.size wr).trans hA).alloc hAw _).trans (below_drew _ _))
        have hI : KI lb (keyK s L k) N wA.heap.size w1 (wA.alloc (ob wA)).drew u1 0 := by
          refine ⟨?_, hB.trans (hBA.mono hNw), fun j hj => Hcc.out wA j hj, ?_⟩
          · have := owns_below hown hBA
            simpa using this
          · intro e
            have := (hown.lt _ e).2
            omega
        have hNB : N ≤ (wA.alloc (ob wA)).drew.heap.size := Nat.le_trans hNw hBA.size
        obtain ⟨wB, hwB⟩ : ∃ x, x = (wA.alloc (ob wA)).drew := ⟨_, rfl⟩
        obtain ⟨l, hl⟩ : ∃ x, x = wA.heap.size := ⟨_, rfl⟩
        obtain ⟨cp, hcp⟩ : ∃ x, x = cap wA := ⟨_, rfl⟩
        rw [← hwB] at hI hNB ⊢
        rw [← hl] at hI ⊢
        rw [← hcp]
        clear hwB hl hcp hBA hAw hA k01 k02 hcv Hcc hown hB hNw Hlab
        simp only [Act.put, List.getElem_toArray, List.getElem_cons_succ, List.getElem_cons_zero, List.setIfInBounds_toArray, List.set_cons_succ, List.set_cons_zero]
        go_wp2_with fail
        go_loopw [28, 1, 9] (fun i v c wr => ∃ j : Nat, j ≤ lb.size ∧ i = .int .i64 j ∧ KI lb (keyK s L k) N l w1 wr v j) (fun i _ _ _ => lb.size - (intOf i).toNat)
        case atStart => exact ⟨0, Nat.zero_le _, rfl, hI⟩
        case round =>
          clear hI hNB
          obtain ⟨j, hj, rfl, hI⟩ := hrel
          have hNr : N ≤ wr.heap.size := by have := hI.2.1.size; have := HNe.out; omega
          have hyl := ysOf_length lb (keyK s L k) hj
          have hown : wr.ownsRow N 5 1 _ (ysOf lb (keyK s L k) j).length (vals (ysOf lb (keyK s L k) j)) := hI.1
          by_cases hlt : j < lb.size
          · have g1 : (j : Int) < lb.size := by omega
            have hc := hI.2.2.1 j hlt
            have HS := show Hid _ from fun o v' w' => KI.step (w' := w') (v' := v') hI hlt hNr o
            obtain ⟨c, hcc⟩ : ∃ c, c = byteN lb j := ⟨_, rfl⟩
            have hc256 : c < 256 := by rw [hcc]; exact byteN_lt lb j
            rw [← hcc] at hc HS
            clear hcc hI
            obtain ⟨ys, hys⟩ : ∃ ys, ys = ysOf lb (keyK s L k) j := ⟨_, rfl⟩
            rw [← hys] at HS hown hyl
            clear hys
            by_cases hz : c = 0
            · subst hz
              go_wp2_with (first
                | (at_builtin; refine wpList_append_own_at _ rfl (.tmp 34) (.tmp 35) 22 rfl N 5 i5 (.int .u8 0) 1 1 Try.underlying22 hi5 z50 z51 z52 rfl (by decide) _ ys.length (vals ys) rfl (hown.alloc _) _ 2 2 [.int .u8 0, .int .u8 1] rfl rfl (two_new _ _ (by simp) _ _ _) (by simp [Value.oneCell']) (by unfold maxLen; omega) (by omega) (by simp; omega) ?_; intro v' w2 hown' hgr _ hat))
              go_roundw
              case rel => exact ⟨j + 1, by omega, rfl, HS.out _ v' w2 hown' hgr hat⟩
              case measure => simp [intOf]; omega
            · have g2 : ((c : Int) == 0) = false := beq_eq_false_iff_ne.2 (by omega)
              have HE : Hid (enc1 c = [low c]) := if_neg hz
              go_wp2_with (first
                | (go_at_call 31; refine (lower_any c hc256 _).mono ?_; rintro e w' ⟨rfl, hw⟩; obtain rfl := hw.symm)
                | (at_builtin; refine wpList_append_own_at _ rfl (.tmp 37) (.tmp 40) 22 rfl N 5 i5 (.int .u8 0) 1 1 Try.underlying22 hi5 z50 z51 z52 rfl (by decide) _ ys.length (vals ys) rfl (hown.alloc _) _ 1 1 [.int .u8 (low c : Nat)] rfl rfl (one_new _ _ (by simp) _ _) (by simp [Value.oneCell']) (by unfold maxLen; omega) (by omega) (by simp; omega) ?_; intro v' w2 hown' hgr _ hat))
              go_roundw
              case rel => exact ⟨j + 1, by omega, rfl, HS.out _ v' w2 (by rw [HE.out]; exact hown') hgr hat⟩
              case measure => simp [intOf]; omega
          · have hjn : j = lb.size := by omega
            subst hjn
            have HKO : Hid (∀ v' w', w'.ownsRow N 5 1 v' ((ysOf lb (keyK s L k) lb.size).length + 2) (vals (ysOf lb (keyK s L k) lb.size) ++ [.int .u8 0, .int .u8 0]) → Below N w1 w' → KO s L N w1 w' v' (k + 1)) := fun v' w' h1 h2 => by
              refine ⟨?_, h2⟩
              rw [HKs.out, ← ysOf_all, List.length_append, vals_append]
              exact h1
            obtain ⟨ys, hys⟩ : ∃ ys, ys = ysOf lb (keyK s L k) lb.size := ⟨_, rfl⟩
            rw [← hys] at HKO hown hyl
            have hB2 := hI.2.1
            clear hys hI hlt
            go_wp2_with (first
                | (at_builtin; refine wpList_append_own_at _ rfl (.tmp 43) (.tmp 44) 22 rfl N 5 i5 (.int .u8 0) 1 1 Try.underlying22 hi5 z50 z51 z52 rfl (by decide) _ ys.length (vals ys) rfl (hown.alloc _) _ 2 2 [.int .u8 0, .int .u8 0] rfl rfl (two_new _ _ (by simp) _ _ _) (by simp [Value.oneCell']) (by unfold maxLen; omega) (by omega) (by simp; omega) ?_; intro v' w2 hown' hgr _ hat))
            go_roundw
            case rel => exact ⟨k + 1, m, by omega, rfl, HKO.out v' w2 hown' ((hB2.alloc hNr _).grown hgr (by simp; omega) (fun k hk => (hown.lt k hk).1))⟩
            case measure => simp [intOf]
    | zero =>
      have g1 : ¬ ((0 : Int) ≤ ((0 : Nat) : Int) - 1) := by omega
      have hkn : k = L.length := by omega
      subst hkn
      clear hk
      go_wp2_with fail
      go_ret
      exact ⟨_, rfl, owns_base hown (by omega), hBw.trans (hB.mono (by omega))⟩

set_option maxHeartbeats 400000 in
theorem zzkey_any (s : ByteArray) (L : List Nat) (w : World) (hW : Wire s L) :
    Calls Try.prog 17 #[.agg #[.string s], .slice none 0 0] w fun e w' => ∃ v, e = .returned v ∧ w'.ownsRow w.heap.size 5 1 v (keyR (L.reverse.map fun p => bts (lab s p))).length (vals (keyR (L.reverse.map fun p => bts (lab s p)))) ∧ Below w.heap.size w w' := by
  go_enter Try.func17, Try.ntmps17
  go_wp2_with fail
  refine (key_any s L _ hW).mono ?_
  rintro e w' ⟨v, rfl, ho, hb⟩
  have hown := owns_base ho (show w.heap.size ≤ (w.alloc (.cells #[.string s] 35)).heap.size by simp)
  have hB : Below w.heap.size w w' := ((Below.refl w.heap.size w).alloc (Nat.le_refl _) _).trans (hb.mono (by simp))
  clear ho hb
  go_wp2_with fail
  go_ret
  exact ⟨_, rfl, hown, hB⟩
end Go.Proofs.Qxb6603816a
