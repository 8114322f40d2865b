/-
  FnKeyRecordsEachPartsSurviveAppend, walked. By an AI agent.
-/
import Derived.Test.Qxb6603657aHands
namespace Go.Proofs.Qxb6603657a
open Go.RowKit
set_option linter.unusedVariables false

/-- A slice of slices whose array the call made: from element k on it holds what it held. -/
def Row48 (w : World) (N : Nat) (o : Option Addr) (L c k : Nat) (V : Nat → Value) (g0 : Option Nat) : Prop :=
  0 < L → ∃ g f, o = some ⟨g, 0, none⟩ ∧ N ≤ g ∧ some g ≠ g0 ∧ w.rowIs g 48 c f ∧ L ≤ c ∧ ∀ j, k ≤ j → j < L → f j = V j
theorem row48_of {w : World} {N : Nat} {o : Option Addr} {L c : Nat} {xs : List Value} {V : Nat → Value} {g0 : Option Nat} (h : w.ownsRow N 48 1 (.slice o L c) L xs) (hV : ∀ i, i < L → xs[i]? = some (V i)) (hg0 : ∀ g, (Value.slice o L c).ownBlock = some g → some g ≠ g0) : Row48 w N o L c 0 V g0 := by
  intro hL
  have hx := h.1
  rcases h.2 with ⟨hv, hn⟩ | ⟨g, cap, cur, hv, hb, hh, hnc, hcm, hcs, htk⟩
  · omega
  · obtain ⟨rfl, rfl⟩ : o = some ⟨g, 0, none⟩ ∧ c = cap := by simpa using hv
    refine ⟨g, fun i => (cur[i]?).getD undef, rfl, hb, hg0 g rfl, ⟨cur, hh, by simpa using hcs, fun i hi => ?_⟩, hnc, fun j _ hj => ?_⟩
    · have : i < cur.size := by omega
      simp [this]
    · have h1 := hV j hj
      rw [← htk, List.getElem?_take] at h1
      split at h1
      · have : cur[j]? = some (V j) := by simpa using h1
        simp [this]
      · cases h1
theorem Row48.step {w w1 : World} {N g : Nat} {L c k : Nat} {V : Nat → Value} {g0 : Option Nat} {f : Nat → Value} {v' : Value} (hN : N ≤ g) (hne : some g ≠ g0) (hrow : w.rowIs g 48 c f) (hLc : L ≤ c) (hf : ∀ j, k ≤ j → j < L → f j = V j) (hg : w.grownBy w1 none) :
    Row48 (w1.setCell ⟨g, k, none⟩ v') N (some ⟨g, 0, none⟩) L c (k + 1) V g0 := by
  intro _
  refine ⟨g, _, rfl, hN, hne, (hrow.of_block (hg.block g hrow.lt (by simp))).set k v', hLc, fun j hj hjL => ?_⟩
  show (if j = k then v' else f j) = V j
  rw [if_neg (by omega)]
  exact hf j (by omega) hjL
theorem Row48.other {w w1 : World} {N g : Nat} {o : Option Addr} {L c k k' : Nat} {V : Nat → Value} {v' : Value} (h : Row48 w N o L c k V (some g)) (hg : w.grownBy w1 none) : Row48 (w1.setCell ⟨g, k', none⟩ v') N o L c k V (some g) := by
  intro hL
  obtain ⟨g', f, e, hN, hne, hrow, hLc, hf⟩ := h hL
  exact ⟨g', f, e, hN, hne, (hrow.of_block (hg.block g' hrow.lt (by simp))).setOther (fun e => hne (by rw [e])) v', hLc, hf⟩
theorem Row48.alike {w w' : World} {N : Nat} {o : Option Addr} {L c k : Nat} {V : Nat → Value} {g0 : Option Nat} (h : Row48 w N o L c k V g0) (hw : w'.heap = w.heap) : Row48 w' N o L c k V g0 := by
  intro hL
  obtain ⟨g', f, e, hN, hne, hrow, hLc, hf⟩ := h hL
  exact ⟨g', f, e, hN, hne, hrow.of_block (by rw [hw]), hLc, hf⟩
theorem Row48.alloc {w : World} {N : Nat} {o : Option Addr} {L c k : Nat} {V : Nat → Value} {g0 : Option Nat} (h : Row48 w N o L c k V g0) (ob : Obj) : Row48 (w.alloc ob) N o L c k V g0 := by
  intro hL
  obtain ⟨g', f, e, hN, hne, hrow, hLc, hf⟩ := h hL
  exact ⟨g', f, e, hN, hne, hrow.alloc ob, hLc, hf⟩
/-- The bytes that a part leads to, as the law on append wants them. -/
theorem rd_olds {B : Nat} {w w' : World} {ao : Option Addr} {s : ByteArray} (h : Rd B w ao s.size (byteV s)) (hb : Below B w w') :
    (ao = none → s.size = 0 ∧ s.size = 0) ∧ ((List.range s.size).map (byteV s)).length = s.size * 1 ∧ ∀ b, ao = some b → ∀ j u, ((List.range s.size).map (byteV s))[j]? = some u → w'.cell? (b.add j) = some u := by
  refine ⟨fun e => ?_, by simp, fun b e j u hu => ?_⟩
  · by_cases hz : s.size = 0
    · exact ⟨hz, hz⟩
    · obtain ⟨_, _, e', _⟩ := h (by omega)
      rw [e] at e'; cases e'
  · have hj : j < s.size := by
      have := (List.getElem?_eq_some_iff.1 hu).1
      simpa using this
    obtain ⟨b', off, e', hlt, hc⟩ := h (by omega)
    rw [e] at e'
    obtain rfl := Option.some.inj e'
    rw [Addr.add_lit, hb.cell (p := ⟨b', off + j, none⟩) hlt, hc j hj]
    simp [hj] at hu
    rw [hu]
/-- What a part reads as. -/
def partV (F : Nat → Option Addr) (R : Nat → ByteArray) (l : List Nat) (j : Nat) : Value := .slice (F (l.getD j 0)) (R (l.getD j 0)).size (R (l.getD j 0)).size
theorem hide {p : Prop} (h : p) : Hid p := h
theorem one_cell_byte (n : Int) : ∀ u ∈ [Value.int .u8 n], u.oneCell' = true := by simp [Value.oneCell']

set_option maxRecDepth 100000 in
set_option maxHeartbeats 4000000 in
theorem survive_any (a0 a1 a2 a3 a4 : Option Addr) (n0 n1 n2 n3 n4 c0 c1 c2 c3 c4 : Nat) (K R A : Nat → ByteArray) (T : Nat → Int) (D : Nat → Bool) (base lead fc ep : Int) (w : World)
    (hI : Ins w a0 a1 a2 a3 a4 n0 n1 n2 n3 n4 c0 c1 c2 c3 c4 K R A T D base lead fc ep) :
    Calls Try.prog 6 #[.slice a0 n0 c0, .slice a1 n1 c1, .slice a2 n2 c2, .slice a3 n3 c3, .slice a4 n4 c4, .int .u64 base, .int .i64 lead, .int .i64 fc, .int .i64 ep] w fun e w' => e = .returned (.bool true) ∧ Below w.heap.size w w' := by
  have m0 := hI.m0
  have m1 := hI.m1
  have m2 := hI.m2
  have m3 := hI.m3
  have m4 := hI.m4
  go_enter Try.func6, Try.ntmps6
  go_wp2_with fail
  refine (bytes23_any w.heap.size a0 a1 a2 a3 a4 n0 n1 n2 n3 n4 c0 c1 c2 c3 c4 K R A _ _ _ _ w m0 m1 m2 m3 m4 hI.r0 hI.r1 hI.r2).mono ?_
  rintro e w' ⟨⟨r, rfl⟩, hw⟩
  obtain rfl := hw.symm
  cases r
  · go_wp2_with fail
    go_ret
    exact ⟨rfl, Below.refl _ _⟩
  by_cases k0 : n0 ≤ 65536
  case neg =>
    have d0 : (65536 : Int) < n0 := by omega
    go_wp2_with fail
    go_ret
    exact ⟨rfl, Below.refl _ _⟩
  by_cases k1 : n1 ≤ 65536
  case neg =>
    have d0 : decide ((65536 : Int) < n0) = false := decide_eq_false (by omega)
    have d1 : (65536 : Int) < n1 := by omega
    go_wp2_with fail
    go_ret
    exact ⟨rfl, Below.refl _ _⟩
  by_cases k2 : n2 ≤ 65536
  case neg =>
    have d0 : decide ((65536 : Int) < n0) = false := decide_eq_false (by omega)
    have d1 : decide ((65536 : Int) < n1) = false := decide_eq_false (by omega)
    have d2 : (65536 : Int) < n2 := by omega
    go_wp2_with fail
    go_ret
    exact ⟨rfl, Below.refl _ _⟩
  by_cases k3 : n3 ≤ 65536
  case neg =>
    have d0 : decide ((65536 : Int) < n0) = false := decide_eq_false (by omega)
    have d1 : decide ((65536 : Int) < n1) = false := decide_eq_false (by omega)
    have d2 : decide ((65536 : Int) < n2) = false := decide_eq_false (by omega)
    have d3 : (65536 : Int) < n3 := by omega
    go_wp2_with fail
    go_ret
    exact ⟨rfl, Below.refl _ _⟩
  have d0 : decide ((65536 : Int) < n0) = false := decide_eq_false (by omega)
  have d1 : decide ((65536 : Int) < n1) = false := decide_eq_false (by omega)
  have d2 : decide ((65536 : Int) < n2) = false := decide_eq_false (by omega)
  have d3 : decide ((65536 : Int) < n3) = false := decide_eq_false (by omega)
  by_cases k4 : n4 ≤ 65536
  case neg =>
    have d4 : (65536 : Int) < n4 := by omega
    go_wp2_with fail
    go_ret
    exact ⟨rfl, Below.refl _ _⟩
  have d4 : decide ((65536 : Int) < n4) = false := decide_eq_false (by omega)
  go_wp2_with fail
  refine (fit_any w.heap.size a0 a1 a2 a3 a4 n0 n1 n2 n3 n4 c0 c1 c2 c3 c4 K R A D base lead fc w k0 k1 k2 k3 k4 hI.b0 hI.b1 hI.l0 hI.l1 hI.r0 hI.r1 hI.r2 hI.r4).mono ?_
  rintro e w' ⟨hs, hw⟩
  obtain rfl := hw.symm
  rcases hs with rfl | ⟨rfl, rfl, rfl, rfl, rfl, hFit⟩
  · go_wp2_with fail
    go_ret
    exact ⟨rfl, Below.refl _ _⟩
  clear d0 d1 d2 d3 d4 m0 m1 m2 m3 m4
  obtain ⟨few, small, q0, q1, fc0, room, front⟩ := hFit
  obtain ⟨r0, r1, r2, r3, r4, z0, z1, z2, z3, z4, _, _, _, _, _, b0, b1, _, _, f1, ep0, ep1, tb⟩ := hI
  obtain ⟨ld, rfl⟩ := Int.eq_ofNat_of_zero_le q0
  have hO : offs K R A n4 ≤ 1048576 := small
  have hRs : ∀ i, i < n4 → (R i).size ≤ 1048576 := fun i hi => by have := sz_le R hi; omega
  have hAs : ∀ i, i < n4 → (A i).size ≤ 1048576 := fun i hi => by have := sz_le A hi; omega
  clear few small front
  go_wp2_with fail
  refine (cloneStrs_any a0 n4 c0 K w k4 z0 r0).mono ?_
  rintro e w1 ⟨a0', c0', rfl, s0, hb1⟩
  clear r0 z0
  go_wp2_with fail
  refine (cloneStrs_any a1 n4 c1 R w1 k4 z1 ((r1.below hb1 (Nat.le_refl _)).mono hb1.size)).mono ?_
  rintro e w2 ⟨a1', c1', rfl, s1, hb2⟩
  clear r1 z1
  have B2 := hb1.trans (hb2.mono hb1.size)
  have s0 := (s0.below hb2 (Nat.le_refl _)).mono hb2.size
  go_wp2_with fail
  refine (cloneStrs_any a2 n4 c2 A w2 k4 z2 ((r2.below B2 (Nat.le_refl _)).mono B2.size)).mono ?_
  rintro e w3 ⟨a2', c2', rfl, s2, hb3⟩
  clear r2 z2
  have B3 := B2.trans (hb3.mono B2.size)
  have s0 := (s0.below hb3 (Nat.le_refl _)).mono hb3.size
  have s1 := (s1.below hb3 (Nat.le_refl _)).mono hb3.size
  go_wp2_with fail
  refine (cloneInts_any a3 n4 c3 T w3 k4 z3 ((r3.below B3 (Nat.le_refl _)).mono B3.size)).mono ?_
  rintro e w4 ⟨a3', c3', rfl, s3, hb4⟩
  clear r3 z3
  have B4 := B3.trans (hb4.mono B3.size)
  have s0 := (s0.below hb4 (Nat.le_refl _)).mono hb4.size
  have s1 := (s1.below hb4 (Nat.le_refl _)).mono hb4.size
  have s2 := (s2.below hb4 (Nat.le_refl _)).mono hb4.size
  go_wp2_with fail
  refine (cloneBools_any a4 n4 c4 D w4 k4 z4 ((r4.below B4 (Nat.le_refl _)).mono B4.size)).mono ?_
  rintro e w5 ⟨a4', c4', rfl, s4, hb5⟩
  clear r4 z4
  have B5 := B4.trans (hb5.mono B4.size)
  have s0 := (s0.below hb5 (Nat.le_refl _)).mono hb5.size
  have s1 := (s1.below hb5 (Nat.le_refl _)).mono hb5.size
  have s2 := (s2.below hb5 (Nat.le_refl _)).mono hb5.size
  have s3 := (s3.below hb5 (Nat.le_refl _)).mono hb5.size
  go_wp2_with fail
  refine (lay_any a0' a1' a2' a3' a4' n4 c0' c1' c2' c3' c4' ld ((ld + n4 + 511) / 512) K R A T D base fc ep w5 k4 (by omega) hO fc0 f1 b0 room ep0 ep1 (by omega) s0 s1 s2 s3 s4).mono ?_
  rintro e w6 ⟨kb, rfl, hLay, hb6⟩
  have B6 := B5.trans (hb6.mono B5.size)
  have s0 := (s0.below hb6 (Nat.le_refl _)).mono hb6.size
  have s1 := (s1.below hb6 (Nat.le_refl _)).mono hb6.size
  have s2 := (s2.below hb6 (Nat.le_refl _)).mono hb6.size
  have s3 := (s3.below hb6 (Nat.le_refl _)).mono hb6.size
  have s4 := (s4.below hb6 (Nat.le_refl _)).mono hb6.size
  clear hb1 hb2 hb3 hb4 hb5 hb6 B2 B3 B4 B5
  have u0 := s0
  have u1 := s1
  have u2 := s2
  have u3 := s3
  have u4 := s4
  go_wp2_with fail
  refine (collect_any w6.heap.size kb n4 ld K R A T D base fc ep w6 hLay k4 hO fc0 f1 b0 room ep0 ep1 tb).mono ?_
  rintro e w7 ⟨F, G, v0, v1, v2, v3, v4, rfl, hC, hRd, hb7⟩
  have B7 := B6.trans (hb7.mono B6.size)
  have s0 := (s0.below hb7 (Nat.le_refl _)).mono hb7.size
  have s1 := (s1.below hb7 (Nat.le_refl _)).mono hb7.size
  have s2 := (s2.below hb7 (Nat.le_refl _)).mono hb7.size
  have s3 := (s3.below hb7 (Nat.le_refl _)).mono hb7.size
  have s4 := (s4.below hb7 (Nat.le_refl _)).mono hb7.size
  have hF : ∀ i, i < n4 → D i = false → Rd w7.heap.size w7 (F i) (R i).size (byteV (R i)) ∧ Rd w7.heap.size w7 (G i) (A i).size (byteV (A i)) := fun i hi hd =>
    ⟨((hRd i hi hd).1.below hb7 (Nat.le_refl _)).mono hb7.size, ((hRd i hi hd).2.below hb7 (Nat.le_refl _)).mono hb7.size⟩
  have own1 := hC.s1.own
  rw [show (outP R F D n4).length = (live D n4).length from List.length_map _] at own1
  have own2 := hC.s2.own
  rw [show (outP A G D n4).length = (live D n4).length from List.length_map _] at own2
  have far12 := hC.f12
  obtain ⟨o0, p0, rfl, t0⟩ := owns_rd (n := (live D n4).length) (V := fun j => .string (K ((live D n4).getD j 0))) (by have h := hC.s0.own; rw [show (outK K D n4).length = (live D n4).length from List.length_map _] at h; exact h) (fun i hi => map_getD (f := fun i => .string (K i)) _ hi)
  obtain ⟨o1, p1, rfl, t1⟩ := owns_rd (n := (live D n4).length) (V := fun j => .slice (F ((live D n4).getD j 0)) (R ((live D n4).getD j 0)).size (R ((live D n4).getD j 0)).size) (by have h := hC.s1.own; rw [show (outP R F D n4).length = (live D n4).length from List.length_map _] at h; exact h) (fun i hi => map_getD (f := fun i => .slice (F i) (R i).size (R i).size) _ hi)
  obtain ⟨o2, p2, rfl, t2⟩ := owns_rd (n := (live D n4).length) (V := fun j => .slice (G ((live D n4).getD j 0)) (A ((live D n4).getD j 0)).size (A ((live D n4).getD j 0)).size) (by have h := hC.s2.own; rw [show (outP A G D n4).length = (live D n4).length from List.length_map _] at h; exact h) (fun i hi => map_getD (f := fun i => .slice (G i) (A i).size (A i).size) _ hi)
  obtain ⟨o3, p3, rfl, t3⟩ := owns_rd (n := (live D n4).length) (V := fun j => .int .i64 ((ep + T ((live D n4).getD j 0)) / 1000000000)) (by have h := hC.s3.own; rw [show (outS T ep D n4).length = (live D n4).length from List.length_map _] at h; exact h) (fun i hi => map_getD (f := fun i => .int .i64 ((ep + T i) / 1000000000)) _ hi)
  obtain ⟨o4, p4, rfl, t4⟩ := owns_rd (n := (live D n4).length) (V := fun j => .int .i64 ((ep + T ((live D n4).getD j 0)) % 1000000000)) (by have h := hC.s4.own; rw [show (outN T ep D n4).length = (live D n4).length from List.length_map _] at h; exact h) (fun i hi => map_getD (f := fun i => .int .i64 ((ep + T i) % 1000000000)) _ hi)
  go_wp2_with fail
  refine (matches_any w7.heap.size a0' a1' a2' a3' a4' o0 o1 o2 o3 o4 n4 c0' c1' c2' c3' c4' p0 p1 p2 p3 p4 K R A T D ep F G w7 k4 ep0 ep1 tb hRs hAs s0 s1 s2 s3 s4 t0 t1 t2 t3 t4 hF).mono ?_
  rintro e w8 ⟨rfl, m, rfl⟩
  go_wp2_with fail
  obtain ⟨i5, hi5, z50, z51, z52⟩ := info_parts Try.info5
  have hLn := live_length D n4
  obtain ⟨L, hLe⟩ : ∃ L, L = (live D n4).length := ⟨_, rfl⟩
  have HLe : Hid (L = (live D n4).length) := hLe
  have hlv : ∀ j, j < L → (live D n4).getD j 0 < n4 ∧ D ((live D n4).getD j 0) = false := fun j hj => live_mem D (by
    have hj' : j < (live D n4).length := by omega
    rw [List.getD, List.getElem?_eq_getElem hj']
    exact List.getElem_mem hj')
  have G1 : Row48 (w7.drewN m) (w6.heap.size + 6) o1 (live D n4).length p1 0 (partV F R (live D n4)) none := Row48.alike (row48_of (g0 := none) (xs := outP R F D n4) own1 (fun i hi => map_getD (f := fun i => .slice (F i) (R i).size (R i).size) _ hi) (fun g _ => by simp)) rfl
  have G2 : Row48 (w7.drewN m) (w6.heap.size + 6) o2 (live D n4).length p2 0 (partV G A (live D n4)) (Value.slice o1 (live D n4).length p1).ownBlock := Row48.alike (row48_of (xs := outP A G D n4) own2 (fun i hi => map_getD (f := fun i => .slice (G i) (A i).size (A i).size) _ hi) (fun g hg e => far12 g e.symm hg)) rfl
  have hbw : Below w6.heap.size w6 (w7.drewN m) := hb7.trans ⟨rfl, rfl, rfl, Nat.le_refl _, fun _ _ => rfl⟩
  clear own1 own2 far12 hF s0 s1 s2 s3 s4 t0 t1 t2 t3 t4 hC
  rw [← HLe.out] at G1 G2 ⊢
  clear hLe
  have hL6 : L ≤ 65536 := by have := HLe.out; omega
  go_loopw [25] (fun i wr => ∃ k : Nat, k ≤ L ∧ i = .int .i64 k ∧ Row48 wr (w6.heap.size + 6) o1 L p1 k (partV F R (live D n4)) none ∧ Row48 wr (w6.heap.size + 6) o2 L p2 0 (partV G A (live D n4)) (Value.slice o1 L p1).ownBlock ∧ Below w6.heap.size w6 wr) (fun i _ => L - (intOf i).toNat)
  case atStart => exact ⟨0, Nat.zero_le _, rfl, G1, G2, hbw⟩
  case round =>
    clear G1 G2 hbw
    obtain ⟨k, hk, rfl, G1, G2, hbw⟩ := hrel
    have hz6 := hbw.size
    by_cases hlt : k < L
    · obtain ⟨g, f, rfl, hN, hne, hrow, hLc, hf⟩ := G1 (by omega)
      obtain ⟨x, hx⟩ : ∃ x, x = (live D n4).getD k 0 := ⟨_, rfl⟩
      obtain ⟨hx1, hx2⟩ := hlv k hlt
      rw [← hx] at hx1 hx2
      have ck : wr.cell? ⟨g, k, none⟩ = some (.slice (F x) (R x).size (R x).size) := by rw [hrow.cell (by omega), hf k (Nat.le_refl _) hlt, partV, ← hx]
      have hgl := hrow.lt
      have O := rd_olds (hRd x hx1 hx2).1 (hbw.alloc (by omega) (.cells #[.int .u8 120] 5))
      have fR := hRs x hx1
      obtain ⟨O1, O2, O3⟩ := O
      have HO1 := hide O1
      have HO2 := hide O2
      have HO3 := hide O3
      have bk : (k : Int) < L := by omega
      clear O1 O2 O3 hx hx2 hx1
      have Hf := hide hf
      clear hf
      go_wp2_with (first
        | (at_builtin; refine wpList_append_grows _ rfl (.tmp 128) (.tmp 129) 48 rfl 5 i5 (.int .u8 0) 1 1 Try.underlying48 hi5 z50 z51 z52 rfl (by decide) (F x) (R x).size (R x).size ((List.range (R x).size).map (byteV (R x))) rfl HO1.out HO2.out HO3.out _ 1 1 [.int .u8 120] rfl rfl (one_new _ _ rfl _ _) (one_cell_byte _) (by omega) (by unfold maxLen; omega) (by omega) ?_; intro v' w1 hown' hgr; obtain ⟨ao, cp, rfl⟩ := owns_form hown'; have rw1 := (hrow.alloc (.cells #[.int .u8 120] 5)).of_block (hgr.block g (by simp; omega) (by simp)); have q1 := rw1.cell (show k < p1 by omega); have z1 := rw1.frozen k))
      go_roundw
      case rel => exact ⟨k + 1, by omega, by go_num, Row48.step hN hne (hrow.alloc _) hLc Hf.out hgr, Row48.other (G2.alloc _) hgr, ((hbw.alloc (by omega) _).grown hgr (by simp; omega) (by simp)).setCell (p := ⟨g, k, none⟩) (show w6.heap.size ≤ g by omega) _⟩
      case measure => simp [intOf]; omega
    clear G1
    go_wp2_with fail
    go_loopw [26] (fun i wr => ∃ k : Nat, k ≤ L ∧ i = .int .i64 k ∧ Row48 wr (w6.heap.size + 6) o2 L p2 k (partV G A (live D n4)) (Value.slice o1 L p1).ownBlock ∧ Below w6.heap.size w6 wr) (fun i _ => L - (intOf i).toNat)
    case atStart => exact ⟨0, Nat.zero_le _, rfl, G2, hbw⟩
    case round =>
      clear G2 hbw hz6
      obtain ⟨q, hq, rfl, G2, hbw⟩ := hrel
      have hz6 := hbw.size
      by_cases hlq : q < L
      · obtain ⟨g, f, rfl, hN, hne, hrow, hLc, hf⟩ := G2 (by omega)
        obtain ⟨x, hx⟩ : ∃ x, x = (live D n4).getD q 0 := ⟨_, rfl⟩
        obtain ⟨hx1, hx2⟩ := hlv q hlq
        rw [← hx] at hx1 hx2
        have ck : wr.cell? ⟨g, q, none⟩ = some (.slice (G x) (A x).size (A x).size) := by rw [hrow.cell (by omega), hf q (Nat.le_refl _) hlq, partV, ← hx]
        have hgl := hrow.lt
        have O := rd_olds (hRd x hx1 hx2).2 (hbw.alloc (by omega) (.cells #[.int .u8 121] 5))
        have fA := hAs x hx1
        obtain ⟨O1, O2, O3⟩ := O
        have HO1 := hide O1
        have HO2 := hide O2
        have HO3 := hide O3
        have bk : (q : Int) < L := by omega
        clear O1 O2 O3 hx hx2 hx1
        have Hf := hide hf
        clear hf
        go_wp2_with (first
          | (at_builtin; refine wpList_append_grows _ rfl (.tmp 143) (.tmp 144) 48 rfl 5 i5 (.int .u8 0) 1 1 Try.underlying48 hi5 z50 z51 z52 rfl (by decide) (G x) (A x).size (A x).size ((List.range (A x).size).map (byteV (A x))) rfl HO1.out HO2.out HO3.out _ 1 1 [.int .u8 121] rfl rfl (one_new _ _ rfl _ _) (one_cell_byte _) (by omega) (by unfold maxLen; omega) (by omega) ?_; intro v' w1 hown' hgr; obtain ⟨ao, cp, rfl⟩ := owns_form hown'; have rw1 := (hrow.alloc (.cells #[.int .u8 121] 5)).of_block (hgr.block g (by simp; omega) (by simp)); have q1 := rw1.cell (show q < p2 by omega); have z1 := rw1.frozen q))
        go_roundw
        case rel => exact ⟨q + 1, by omega, by go_num, Row48.step hN hne (hrow.alloc _) hLc Hf.out hgr, ((hbw.alloc (by omega) _).grown hgr (by simp; omega) (by simp)).setCell (p := ⟨g, q, none⟩) (show w6.heap.size ≤ g by omega) _⟩
        case measure => simp [intOf]; omega
      clear G2
      have v0 := (u0.below hbw (Nat.le_refl _)).mono hbw.size
      have v1 := (u1.below hbw (Nat.le_refl _)).mono hbw.size
      have v2 := (u2.below hbw (Nat.le_refl _)).mono hbw.size
      have v3 := (u3.below hbw (Nat.le_refl _)).mono hbw.size
      have v4 := (u4.below hbw (Nat.le_refl _)).mono hbw.size
      have hLay2 := hLay.below hbw
      have HRs := hide hRs
      have HAs := hide hAs
      have Htb := hide tb
      have Hlv := hide hlv
      have HRd := hide hRd
      clear hRs hAs tb hlv hRd u0 u1 u2 u3 u4 hLay
      go_wp2_with fail
      refine (collect_any w6.heap.size kb n4 ld K R A T D base fc ep wr hLay2 k4 hO fc0 f1 b0 room ep0 ep1 Htb.out).mono ?_
      rintro e w9 ⟨F', G', y0, y1, y2, y3, y4, rfl, hC, hRd', hb9⟩
      have s0 := (v0.below hb9 (Nat.le_refl _)).mono hb9.size
      have s1 := (v1.below hb9 (Nat.le_refl _)).mono hb9.size
      have s2 := (v2.below hb9 (Nat.le_refl _)).mono hb9.size
      have s3 := (v3.below hb9 (Nat.le_refl _)).mono hb9.size
      have s4 := (v4.below hb9 (Nat.le_refl _)).mono hb9.size
      have hF : ∀ i, i < n4 → D i = false → Rd w9.heap.size w9 (F' i) (R i).size (byteV (R i)) ∧ Rd w9.heap.size w9 (G' i) (A i).size (byteV (A i)) := fun i hi hd =>
        ⟨((hRd' i hi hd).1.below hb9 hz6).mono (Nat.le_trans hz6 hb9.size), ((hRd' i hi hd).2.below hb9 hz6).mono (Nat.le_trans hz6 hb9.size)⟩
      obtain ⟨o0, p0, rfl, t0⟩ := owns_rd (n := (live D n4).length) (V := fun j => .string (K ((live D n4).getD j 0))) (by have h := hC.s0.own; rw [show (outK K D n4).length = (live D n4).length from List.length_map _] at h; exact h) (fun i hi => map_getD (f := fun i => .string (K i)) _ hi)
      obtain ⟨o1, p1, rfl, t1⟩ := owns_rd (n := (live D n4).length) (V := fun j => .slice (F' ((live D n4).getD j 0)) (R ((live D n4).getD j 0)).size (R ((live D n4).getD j 0)).size) (by have h := hC.s1.own; rw [show (outP R F' D n4).length = (live D n4).length from List.length_map _] at h; exact h) (fun i hi => map_getD (f := fun i => .slice (F' i) (R i).size (R i).size) _ hi)
      obtain ⟨o2, p2, rfl, t2⟩ := owns_rd (n := (live D n4).length) (V := fun j => .slice (G' ((live D n4).getD j 0)) (A ((live D n4).getD j 0)).size (A ((live D n4).getD j 0)).size) (by have h := hC.s2.own; rw [show (outP A G' D n4).length = (live D n4).length from List.length_map _] at h; exact h) (fun i hi => map_getD (f := fun i => .slice (G' i) (A i).size (A i).size) _ hi)
      obtain ⟨o3, p3, rfl, t3⟩ := owns_rd (n := (live D n4).length) (V := fun j => .int .i64 ((ep + T ((live D n4).getD j 0)) / 1000000000)) (by have h := hC.s3.own; rw [show (outS T ep D n4).length = (live D n4).length from List.length_map _] at h; exact h) (fun i hi => map_getD (f := fun i => .int .i64 ((ep + T i) / 1000000000)) _ hi)
      obtain ⟨o4, p4, rfl, t4⟩ := owns_rd (n := (live D n4).length) (V := fun j => .int .i64 ((ep + T ((live D n4).getD j 0)) % 1000000000)) (by have h := hC.s4.own; rw [show (outN T ep D n4).length = (live D n4).length from List.length_map _] at h; exact h) (fun i hi => map_getD (f := fun i => .int .i64 ((ep + T i) % 1000000000)) _ hi)
      go_wp2_with fail
      refine (matches_any w9.heap.size a0' a1' a2' a3' a4' o0 o1 o2 o3 o4 n4 c0' c1' c2' c3' c4' p0 p1 p2 p3 p4 K R A T D ep F' G' w9 k4 ep0 ep1 Htb.out HRs.out HAs.out s0 s1 s2 s3 s4 t0 t1 t2 t3 t4 hF).mono ?_
      rintro e w10 ⟨rfl, m', rfl⟩
      go_wp2_with fail
      go_ret
      exact ⟨rfl, ((B6.trans (hbw.mono B6.size)).trans (hb9.mono (Nat.le_trans B6.size hz6))).trans ⟨rfl, rfl, rfl, Nat.le_refl _, fun _ _ => rfl⟩⟩
end Go.Proofs.Qxb6603657a
