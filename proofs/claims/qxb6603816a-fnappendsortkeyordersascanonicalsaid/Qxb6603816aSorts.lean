/-
  FnAppendSortKeyOrdersAsCanonical, walked. By an AI agent.
-/
import Derived.Test.Qxb6603816aKey
namespace Go.Proofs.Qxb6603816a
open Go.RowKit
set_option linter.unusedVariables false

theorem revL_labels (s : ByteArray) (L : List Nat) : revL (fun i => lab s (L.getD i 0)) L.length = L.reverse.map fun p => bts (lab s p) := by
  apply List.ext_getElem
  · simp [revL]
  · intro i h1 h2
    have hi : i < L.length := by simpa using h2
    simp [revL, List.getD, show L.length - 1 - i < L.length by omega]

theorem rd_owns {w : World} {base n : Nat} {e : TypeId} {v : Value} {xs : List Value} (V : Nat → Value) (h : w.ownsRow base e 1 v n xs) (hx : ∀ i, i < n → xs[i]? = some (V i)) : ∃ ao c, v = .slice ao n c ∧ Rd w.heap.size w ao n V := by
  rcases h.2 with ⟨rfl, rfl⟩ | ⟨g, cap, cur, rfl, h2, h3, h4, h5, h6, h7⟩
  · exact ⟨none, 0, rfl, fun h => absurd h (by omega)⟩
  · refine ⟨_, cap, rfl, fun _ => ⟨g, 0, rfl, (Array.getElem?_eq_some_iff.1 h3).1, fun i hi => ?_⟩⟩
    have e1 := hx i hi
    rw [← h7, List.getElem?_take_of_lt (by omega), Array.getElem?_toList] at e1
    simp only [World.cell?, h3, Nat.zero_add]
    exact e1

theorem vals_get (xs : List Nat) : ∀ i, i < xs.length → (vals xs)[i]? = some (.int .u8 (xs.getD i 0 : Nat)) := fun i hi => by simp [vals, List.getD, hi]
theorem labs_get (s : ByteArray) (L : List Nat) : ∀ i, i < L.length → (L.map fun p => Value.string (lab s p))[i]? = some (.string (lab s (L.getD i 0))) := fun i hi => by simp [List.getD, hi]
theorem key_small {s : ByteArray} {L : List Nat} (h : Wire s L) : (keyR (L.reverse.map fun p => bts (lab s p))).length ≤ 1048576 := by
  have := keyK_length s L (Nat.le_refl _)
  have := (wire_at h).1
  rw [keyK_all] at *
  omega

set_option maxRecDepth 100000 in
set_option maxHeartbeats 1000000 in
theorem law_any (a b : ByteArray) (w : World) (ha : a.size ≤ 9223372036854775807) (hb : b.size ≤ 9223372036854775807) :
    Calls Try.prog 6 #[.string a, .string b] w fun e w' => e = .returned (.bool true) ∧ Below w.heap.size w w' := by
  go_enter Try.func6, Try.ntmps6
  go_wp2_with fail
  refine (bytes22_any a b _ ha hb).mono ?_
  rintro e w' ⟨rfl | rfl, hw⟩
  · obtain rfl := hw.symm
    go_wp2_with fail
    go_ret
    exact ⟨rfl, Below.refl _ _⟩
  obtain rfl := hw.symm
  by_cases h1 : 1048576 < a.size
  · have g1 : (1048576 : Int) < a.size := by omega
    go_wp2_with fail
    go_ret
    exact ⟨rfl, Below.refl _ _⟩
  have g1 : ¬ (1048576 : Int) < a.size := by omega
  by_cases h2 : 1048576 < b.size
  · have g2 : (1048576 : Int) < b.size := by omega
    go_wp2_with fail
    go_ret
    exact ⟨rfl, Below.refl _ _⟩
  have g2 : ¬ (1048576 : Int) < b.size := by omega
  have q1 : IntKind.i64.wrap ((a.size : Int) + b.size) = a.size + b.size := by rw [IntKind.wrap_i64]; omega
  by_cases h3 : 1048576 < a.size + b.size
  · have g3 : (1048576 : Int) < a.size + b.size := by omega
    go_wp2_with fail
    go_ret
    exact ⟨rfl, Below.refl _ _⟩
  have g3 : ¬ (1048576 : Int) < a.size + b.size := by omega
  go_wp2_with fail
  refine (valid_any a _ (by omega)).mono ?_
  rintro e w' ⟨rfl | ⟨rfl, L, hL⟩, hw⟩
  · obtain rfl := hw.symm
    go_wp2_with fail
    go_ret
    exact ⟨rfl, Below.refl _ _⟩
  obtain rfl := hw.symm
  go_wp2_with fail
  refine (valid_any b _ (by omega)).mono ?_
  rintro e w' ⟨rfl | ⟨rfl, R, hR⟩, hw⟩
  · obtain rfl := hw.symm
    go_wp2_with fail
    go_ret
    exact ⟨rfl, Below.refl _ _⟩
  obtain rfl := hw.symm
  clear g1 g2 g3 q1 h1 h2 h3 ha hb
  go_wp2_with fail
  refine (fromWire_any a _).mono ?_
  rintro e w1 ⟨rfl, hB1⟩
  go_wp2_with fail
  refine (zzkey_any a L _ hL).mono ?_
  rintro e w2 ⟨v1, rfl, ho1, hB2⟩
  obtain ⟨a0, c0, rfl, hr0⟩ := rd_owns _ ho1 (vals_get _)
  have HK0 := show Hid _ from key_small hL
  have HT : Hid (revL (fun i => lab a (L.getD i 0)) L.length = L.reverse.map fun p => bts (lab a p)) := revL_labels a L
  obtain ⟨k0, e0⟩ : ∃ x, x = L.reverse.map fun p => bts (lab a p) := ⟨_, rfl⟩
  rw [← e0] at hr0 HK0 HT ⊢
  clear e0 ho1
  have hB12 := hB1.trans (hB2.mono hB1.size)
  clear hB1 hB2
  go_wp2_with fail
  refine (fromWire_any b _).mono ?_
  rintro e w3 ⟨rfl, hB3⟩
  go_wp2_with fail
  refine (zzkey_any b R _ hR).mono ?_
  rintro e w4 ⟨v2, rfl, ho2, hB4⟩
  obtain ⟨a1, c1, rfl, hr1⟩ := rd_owns _ ho2 (vals_get _)
  have HK1 := show Hid _ from key_small hR
  have HU : Hid (revL (fun i => lab b (R.getD i 0)) R.length = R.reverse.map fun p => bts (lab b p)) := revL_labels b R
  obtain ⟨k1, e1⟩ : ∃ x, x = R.reverse.map fun p => bts (lab b p) := ⟨_, rfl⟩
  rw [← e1] at hr1 HK1 HU ⊢
  clear e1 ho2
  have hB34 : Below w2.heap.size w2 w4 := hB3.trans (hB4.mono hB3.size)
  have hr0' := (hr0.below hB34 (Nat.le_refl _)).mono hB34.size
  have hBw4 := hB12.trans (hB34.mono hB12.size)
  clear hr0 hB3 hB4 hB12
  go_wp2_with fail
  refine (cmpBytes_any w4.heap.size a0 a1 c0 c1 (keyR k0) (keyR k1) _ HK0.out HK1.out hr0' hr1).mono ?_
  rintro e w5 ⟨rfl, m5, rfl⟩
  rw [key_orders]
  have hBw5 : Below w.heap.size w (w4.drewN m5) := hBw4.trans ⟨rfl, rfl, rfl, Nat.le_refl _, fun _ _ => rfl⟩
  clear hr0' hr1 hBw4 hB34
  go_wp2_with fail
  refine (labels_any a L _ hL).mono ?_
  rintro e w6 ⟨v3, rfl, ho3, hB6⟩
  obtain ⟨a3, c3, rfl, hr3⟩ := rd_owns _ ho3 (labs_get a L)
  have hBw6 := hBw5.trans (hB6.mono hBw5.size)
  clear ho3 hB6 hBw5
  go_wp2_with fail
  refine (labels_any b R _ hR).mono ?_
  rintro e w7 ⟨v4, rfl, ho4, hB7⟩
  obtain ⟨a4, c4, rfl, hr4⟩ := rd_owns _ ho4 (labs_get b R)
  have hBw7 := hBw6.trans (hB7.mono hBw6.size)
  have hr3' := (hr3.below hB7 (Nat.le_refl _)).mono hB7.size
  clear ho4 hB7 hBw6 hr3
  go_wp2_with fail
  refine (canon_any w7.heap.size a3 a4 L.length R.length c3 c4 (fun i => lab a (L.getD i 0)) (fun i => lab b (R.getD i 0)) _ (Nat.le_trans (wire_at hL).1 (by decide)) (Nat.le_trans (wire_at hR).1 (by decide)) (fun i _ => Nat.le_trans (lab_size _ _) (by decide)) (fun i _ => Nat.le_trans (lab_size _ _) (by decide)) hr3' hr4).mono ?_
  rintro e w8 ⟨rfl, m8, rfl⟩
  rw [HT.out, HU.out]
  have hBw8 : Below w.heap.size w (w7.drewN m8) := hBw7.trans ⟨rfl, rfl, rfl, Nat.le_refl _, fun _ _ => rfl⟩
  clear hr3' hr4 hBw7 hL hR
  go_wp2_with fail
  go_ret
  exact ⟨rfl, hBw8⟩
end Go.Proofs.Qxb6603816a
