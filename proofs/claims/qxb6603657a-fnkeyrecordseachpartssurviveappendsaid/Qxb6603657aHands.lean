/-
  FnKeyRecordsEachHandsOutLiveRecordsInOrder, walked. By an AI agent.
-/
import Derived.Test.Qxb6603657aLayWalk
import Derived.Test.Qxb6603657aCollect
import Derived.Test.Qxb6603657aMatch
namespace Go.Proofs.Qxb6603657a
open Go.RowKit
set_option linter.unusedVariables false

/-- The arguments, as they lie in memory. -/
structure Ins (w : World) (a0 a1 a2 a3 a4 : Option Addr) (n0 n1 n2 n3 n4 c0 c1 c2 c3 c4 : Nat) (K R A : Nat → ByteArray) (T : Nat → Int) (D : Nat → Bool) (base lead fc ep : Int) : Prop where
  r0 : Rd w.heap.size w a0 n0 fun i => .string (K i)
  r1 : Rd w.heap.size w a1 n1 fun i => .string (R i)
  r2 : Rd w.heap.size w a2 n2 fun i => .string (A i)
  r3 : Rd w.heap.size w a3 n3 fun i => .int .i64 (T i)
  r4 : Rd w.heap.size w a4 n4 fun i => .bool (D i)
  z0 : a0 = none → n0 = 0 ∧ c0 = 0
  z1 : a1 = none → n1 = 0 ∧ c1 = 0
  z2 : a2 = none → n2 = 0 ∧ c2 = 0
  z3 : a3 = none → n3 = 0 ∧ c3 = 0
  z4 : a4 = none → n4 = 0 ∧ c4 = 0
  m0 : n0 ≤ 9223372036854775807
  m1 : n1 ≤ 9223372036854775807
  m2 : n2 ≤ 9223372036854775807
  m3 : n3 ≤ 9223372036854775807
  m4 : n4 ≤ 9223372036854775807
  b0 : 0 ≤ base
  b1 : base ≤ 18446744073709551615
  l0 : -9223372036854775808 ≤ lead
  l1 : lead ≤ 9223372036854775807
  f1 : fc ≤ 9223372036854775807
  e0 : -9223372036854775808 ≤ ep
  e1 : ep ≤ 9223372036854775807
  tb : ∀ i, i < n3 → -9223372036854775808 ≤ T i ∧ T i ≤ 9223372036854775807

/-- What a slice that owns xs reads as. -/
theorem owns_rd {w : World} {base : Nat} {e : TypeId} {v : Value} {n : Nat} {xs : List Value} {V : Nat → Value} (h : w.ownsRow base e 1 v n xs) (hV : ∀ i, i < n → xs[i]? = some (V i)) : ∃ ao c, v = .slice ao n c ∧ Rd w.heap.size w ao n V := by
  rcases h.2 with ⟨hv, hn⟩ | ⟨g, cap, cur, hv, hb, hh, r⟩
  · exact ⟨none, 0, by rw [hv, hn], fun h0 => absurd h0 (by omega)⟩
  · subst hv
    exact ⟨_, cap, rfl, fun _ => ⟨g, 0, rfl, lt_of_block hh, fun i hi => by rw [Nat.zero_add]; exact owns_cells h i _ (hV i hi)⟩⟩
theorem map_getD {f : Nat → Value} (l : List Nat) {i : Nat} (h : i < l.length) : (l.map f)[i]? = some (f (l.getD i 0)) := by
  simp [List.getD, h]
theorem sz_le (K : Nat → ByteArray) {i n : Nat} (h : i < n) : (K i).size ≤ sz K n := by
  have := sz_mono K (show i + 1 ≤ n by omega)
  rw [sz_succ] at this
  omega

set_option maxRecDepth 100000 in
set_option maxHeartbeats 4000000 in
theorem hands_any (a0 a1 a2 a3 a4 : Option Addr) (n0 n1 n2 n3 n4 c0 c1 c2 c3 c4 : Nat) (K R A : Nat → ByteArray) (T : Nat → Int) (D : Nat → Bool) (base lead fc ep : Int) (w : World)
    (hI : Ins w a0 a1 a2 a3 a4 n0 n1 n2 n3 n4 c0 c1 c2 c3 c4 K R A T D base lead fc ep) :
    Calls Try.prog 5 #[.slice a0 n0 c0, .slice a1 n1 c1, .slice a2 n2 c2, .slice a3 n3 c3, .slice a4 n4 c4, .int .u64 base, .int .i64 lead, .int .i64 fc, .int .i64 ep] w fun e w' => e = .returned (.bool true) ∧ Below w.heap.size w w' := by
  have m0 := hI.m0
  have m1 := hI.m1
  have m2 := hI.m2
  have m3 := hI.m3
  have m4 := hI.m4
  go_enter Try.func5, Try.ntmps5
  go_wp2_with fail
  refine (bytes16_any w.heap.size a0 a1 a2 a3 a4 n0 n1 n2 n3 n4 c0 c1 c2 c3 c4 K R A _ _ _ _ w m0 m1 m2 m3 m4 hI.r0 hI.r1 hI.r2).mono ?_
  rintro e w' ⟨⟨r, rfl⟩, hw⟩
  obtain rfl := hw.symm
  cases r
  · go_wp2_with fail
    go_ret
    exact ⟨rfl, Below.refl _ _⟩
  by_cases k0 : n0 ≤ 65536
  case neg =>
    have d0 : (65536 : Int) < n0 := by omega
    go_wp2_with fail
    go_ret
    exact ⟨rfl, Below.refl _ _⟩
  by_cases k1 : n1 ≤ 65536
  case neg =>
    have d0 : decide ((65536 : Int) < n0) = false := decide_eq_false (by omega)
    have d1 : (65536 : Int) < n1 := by omega
    go_wp2_with fail
    go_ret
    exact ⟨rfl, Below.refl _ _⟩
  by_cases k2 : n2 ≤ 65536
  case neg =>
    have d0 : decide ((65536 : Int) < n0) = false := decide_eq_false (by omega)
    have d1 : decide ((65536 : Int) < n1) = false := decide_eq_false (by omega)
    have d2 : (65536 : Int) < n2 := by omega
    go_wp2_with fail
    go_ret
    exact ⟨rfl, Below.refl _ _⟩
  by_cases k3 : n3 ≤ 65536
  case neg =>
    have d0 : decide ((65536 : Int) < n0) = false := decide_eq_false (by omega)
    have d1 : decide ((65536 : Int) < n1) = false := decide_eq_false (by omega)
    have d2 : decide ((65536 : Int) < n2) = false := decide_eq_false (by omega)
    have d3 : (65536 : Int) < n3 := by omega
    go_wp2_with fail
    go_ret
    exact ⟨rfl, Below.refl _ _⟩
  have d0 : decide ((65536 : Int) < n0) = false := decide_eq_false (by omega)
  have d1 : decide ((65536 : Int) < n1) = false := decide_eq_false (by omega)
  have d2 : decide ((65536 : Int) < n2) = false := decide_eq_false (by omega)
  have d3 : decide ((65536 : Int) < n3) = false := decide_eq_false (by omega)
  by_cases k4 : n4 ≤ 65536
  case neg =>
    have d4 : (65536 : Int) < n4 := by omega
    go_wp2_with fail
    go_ret
    exact ⟨rfl, Below.refl _ _⟩
  have d4 : decide ((65536 : Int) < n4) = false := decide_eq_false (by omega)
  go_wp2_with fail
  refine (fit_any w.heap.size a0 a1 a2 a3 a4 n0 n1 n2 n3 n4 c0 c1 c2 c3 c4 K R A D base lead fc w k0 k1 k2 k3 k4 hI.b0 hI.b1 hI.l0 hI.l1 hI.r0 hI.r1 hI.r2 hI.r4).mono ?_
  rintro e w' ⟨hs, hw⟩
  obtain rfl := hw.symm
  rcases hs with rfl | ⟨rfl, rfl, rfl, rfl, rfl, hFit⟩
  · go_wp2_with fail
    go_ret
    exact ⟨rfl, Below.refl _ _⟩
  clear d0 d1 d2 d3 d4 m0 m1 m2 m3 m4
  obtain ⟨few, small, q0, q1, fc0, room, front⟩ := hFit
  obtain ⟨r0, r1, r2, r3, r4, z0, z1, z2, z3, z4, _, _, _, _, _, b0, b1, _, _, f1, ep0, ep1, tb⟩ := hI
  obtain ⟨ld, rfl⟩ := Int.eq_ofNat_of_zero_le q0
  have hO : offs K R A n4 ≤ 1048576 := small
  have hRs : ∀ i, i < n4 → (R i).size ≤ 1048576 := fun i hi => by have := sz_le R hi; omega
  have hAs : ∀ i, i < n4 → (A i).size ≤ 1048576 := fun i hi => by have := sz_le A hi; omega
  clear few small front
  go_wp2_with fail
  refine (cloneStrs_any a0 n4 c0 K w k4 z0 r0).mono ?_
  rintro e w1 ⟨a0', c0', rfl, s0, hb1⟩
  clear r0 z0
  go_wp2_with fail
  refine (cloneStrs_any a1 n4 c1 R w1 k4 z1 ((r1.below hb1 (Nat.le_refl _)).mono hb1.size)).mono ?_
  rintro e w2 ⟨a1', c1', rfl, s1, hb2⟩
  clear r1 z1
  have B2 := hb1.trans (hb2.mono hb1.size)
  have s0 := (s0.below hb2 (Nat.le_refl _)).mono hb2.size
  go_wp2_with fail
  refine (cloneStrs_any a2 n4 c2 A w2 k4 z2 ((r2.below B2 (Nat.le_refl _)).mono B2.size)).mono ?_
  rintro e w3 ⟨a2', c2', rfl, s2, hb3⟩
  clear r2 z2
  have B3 := B2.trans (hb3.mono B2.size)
  have s0 := (s0.below hb3 (Nat.le_refl _)).mono hb3.size
  have s1 := (s1.below hb3 (Nat.le_refl _)).mono hb3.size
  go_wp2_with fail
  refine (cloneInts_any a3 n4 c3 T w3 k4 z3 ((r3.below B3 (Nat.le_refl _)).mono B3.size)).mono ?_
  rintro e w4 ⟨a3', c3', rfl, s3, hb4⟩
  clear r3 z3
  have B4 := B3.trans (hb4.mono B3.size)
  have s0 := (s0.below hb4 (Nat.le_refl _)).mono hb4.size
  have s1 := (s1.below hb4 (Nat.le_refl _)).mono hb4.size
  have s2 := (s2.below hb4 (Nat.le_refl _)).mono hb4.size
  go_wp2_with fail
  refine (cloneBools_any a4 n4 c4 D w4 k4 z4 ((r4.below B4 (Nat.le_refl _)).mono B4.size)).mono ?_
  rintro e w5 ⟨a4', c4', rfl, s4, hb5⟩
  clear r4 z4
  have B5 := B4.trans (hb5.mono B4.size)
  have s0 := (s0.below hb5 (Nat.le_refl _)).mono hb5.size
  have s1 := (s1.below hb5 (Nat.le_refl _)).mono hb5.size
  have s2 := (s2.below hb5 (Nat.le_refl _)).mono hb5.size
  have s3 := (s3.below hb5 (Nat.le_refl _)).mono hb5.size
  go_wp2_with fail
  refine (lay_any a0' a1' a2' a3' a4' n4 c0' c1' c2' c3' c4' ld ((ld + n4 + 511) / 512) K R A T D base fc ep w5 k4 (by omega) hO fc0 f1 b0 room ep0 ep1 (by omega) s0 s1 s2 s3 s4).mono ?_
  rintro e w6 ⟨kb, rfl, hLay, hb6⟩
  have B6 := B5.trans (hb6.mono B5.size)
  have s0 := (s0.below hb6 (Nat.le_refl _)).mono hb6.size
  have s1 := (s1.below hb6 (Nat.le_refl _)).mono hb6.size
  have s2 := (s2.below hb6 (Nat.le_refl _)).mono hb6.size
  have s3 := (s3.below hb6 (Nat.le_refl _)).mono hb6.size
  have s4 := (s4.below hb6 (Nat.le_refl _)).mono hb6.size
  clear hb1 hb2 hb3 hb4 hb5 hb6 B2 B3 B4 B5
  go_wp2_with fail
  refine (collect_any w6.heap.size kb n4 ld K R A T D base fc ep w6 hLay k4 hO fc0 f1 b0 room ep0 ep1 tb).mono ?_
  rintro e w7 ⟨F, G, v0, v1, v2, v3, v4, rfl, hC, hRd, hb7⟩
  have B7 := B6.trans (hb7.mono B6.size)
  have s0 := (s0.below hb7 (Nat.le_refl _)).mono hb7.size
  have s1 := (s1.below hb7 (Nat.le_refl _)).mono hb7.size
  have s2 := (s2.below hb7 (Nat.le_refl _)).mono hb7.size
  have s3 := (s3.below hb7 (Nat.le_refl _)).mono hb7.size
  have s4 := (s4.below hb7 (Nat.le_refl _)).mono hb7.size
  have hF : ∀ i, i < n4 → D i = false → Rd w7.heap.size w7 (F i) (R i).size (byteV (R i)) ∧ Rd w7.heap.size w7 (G i) (A i).size (byteV (A i)) := fun i hi hd =>
    ⟨((hRd i hi hd).1.below hb7 (Nat.le_refl _)).mono hb7.size, ((hRd i hi hd).2.below hb7 (Nat.le_refl _)).mono hb7.size⟩
  obtain ⟨o0, p0, rfl, t0⟩ := owns_rd (n := (live D n4).length) (V := fun j => .string (K ((live D n4).getD j 0))) (by have h := hC.s0.own; rw [show (outK K D n4).length = (live D n4).length from List.length_map _] at h; exact h) (fun i hi => map_getD (f := fun i => .string (K i)) _ hi)
  obtain ⟨o1, p1, rfl, t1⟩ := owns_rd (n := (live D n4).length) (V := fun j => .slice (F ((live D n4).getD j 0)) (R ((live D n4).getD j 0)).size (R ((live D n4).getD j 0)).size) (by have h := hC.s1.own; rw [show (outP R F D n4).length = (live D n4).length from List.length_map _] at h; exact h) (fun i hi => map_getD (f := fun i => .slice (F i) (R i).size (R i).size) _ hi)
  obtain ⟨o2, p2, rfl, t2⟩ := owns_rd (n := (live D n4).length) (V := fun j => .slice (G ((live D n4).getD j 0)) (A ((live D n4).getD j 0)).size (A ((live D n4).getD j 0)).size) (by have h := hC.s2.own; rw [show (outP A G D n4).length = (live D n4).length from List.length_map _] at h; exact h) (fun i hi => map_getD (f := fun i => .slice (G i) (A i).size (A i).size) _ hi)
  obtain ⟨o3, p3, rfl, t3⟩ := owns_rd (n := (live D n4).length) (V := fun j => .int .i64 ((ep + T ((live D n4).getD j 0)) / 1000000000)) (by have h := hC.s3.own; rw [show (outS T ep D n4).length = (live D n4).length from List.length_map _] at h; exact h) (fun i hi => map_getD (f := fun i => .int .i64 ((ep + T i) / 1000000000)) _ hi)
  obtain ⟨o4, p4, rfl, t4⟩ := owns_rd (n := (live D n4).length) (V := fun j => .int .i64 ((ep + T ((live D n4).getD j 0)) % 1000000000)) (by have h := hC.s4.own; rw [show (outN T ep D n4).length = (live D n4).length from List.length_map _] at h; exact h) (fun i hi => map_getD (f := fun i => .int .i64 ((ep + T i) % 1000000000)) _ hi)
  go_wp2_with fail
  refine (matches_any w7.heap.size a0' a1' a2' a3' a4' o0 o1 o2 o3 o4 n4 c0' c1' c2' c3' c4' p0 p1 p2 p3 p4 K R A T D ep F G w7 k4 ep0 ep1 tb hRs hAs s0 s1 s2 s3 s4 t0 t1 t2 t3 t4 hF).mono ?_
  rintro e w8 ⟨rfl, m, rfl⟩
  go_wp2_with fail
  go_ret
  exact ⟨rfl, B7.trans ⟨rfl, rfl, rfl, Nat.le_refl _, fun _ _ => rfl⟩⟩
end Go.Proofs.Qxb6603657a
