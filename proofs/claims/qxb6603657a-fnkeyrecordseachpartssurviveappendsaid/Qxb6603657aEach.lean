/-
  '(*keyRecords).each' with the closure of ZZeachCollect; ZZeachCollect. By an AI agent.
-/
import Derived.Test.Qxb6603657aEachRel
import Derived.Deep.RegionHeld3
namespace Go.Proofs.Qxb6603657a
open Go.RowKit
set_option linter.unusedVariables false

theorem Rd.back {B B' : Nat} {w w' : World} {ao : Option Addr} {n : Nat} {V : Nat → Value} (h : Rd B w' ao n V) (hb : Below B' w w') (hB : B ≤ B') : Rd B w ao n V := by
  intro hn
  obtain ⟨b, off, e, hlt, hc⟩ := h hn
  exact ⟨b, off, e, hlt, fun i hi => (hb.cell (p := ⟨b, off + i, none⟩) (show b < B' by omega)).symm.trans (hc i hi)⟩

def Sx (B kb RB ro : Nat) (a0 : Option Addr) (ep t : Int) (key : ByteArray) (W : World) : Prop :=
  W.cell? ⟨kb, 1, none⟩ = some (.int .u64 (ep % 1000000000)) ∧ W.cell? ⟨kb, 2, none⟩ = some (.int .i64 (ep / 1000000000)) ∧ W.cell? ⟨kb, 3, none⟩ = some (.pointer none) ∧ W.cell? ⟨RB, ro + 1, none⟩ = some (.int .i64 t) ∧ Rd B W a0 key.size (byteV key)
theorem Sx.out {B kb RB ro : Nat} {a0 : Option Addr} {ep t : Int} {key : ByteArray} {W : World} (h : Sx B kb RB ro a0 ep t key W) : W.cell? ⟨kb, 1, none⟩ = some (.int .u64 (ep % 1000000000)) ∧ W.cell? ⟨kb, 2, none⟩ = some (.int .i64 (ep / 1000000000)) ∧ W.cell? ⟨kb, 3, none⟩ = some (.pointer none) ∧ W.cell? ⟨RB, ro + 1, none⟩ = some (.int .i64 t) ∧ Rd B W a0 key.size (byteV key) := h
theorem sx_below {B kb RB ro : Nat} {a0 : Option Addr} {ep t : Int} {key : ByteArray} {W W' : World} (h : Sx B kb RB ro a0 ep t key W) (hk : kb < B) (hr : RB < B) (hb : Below B W W') : Sx B kb RB ro a0 ep t key W' :=
  ⟨keepB hb h.1 hk, keepB hb h.2.1 hk, keepB hb h.2.2.1 hk, keepB hb h.2.2.2.1 hr, h.2.2.2.2.below hb (Nat.le_refl _)⟩

set_option maxRecDepth 100000 in
set_option maxHeartbeats 2000000 in
theorem each_any (B N kb n ld : Nat) (K R A : Nat → ByteArray) (T : Nat → Int) (D : Nat → Bool) (base fc ep : Int) (w : World) (hL : Lay w B kb n ld K R A T D base fc ep) (hBN : B ≤ N)
    (hC : Col w N (.slice none 0 0) (.slice none 0 0) (.slice none 0 0) (.slice none 0 0) (.slice none 0 0) [] [] [] [] [])
    (hn : n ≤ 65536) (hO : offs K R A n ≤ 1048576) (hf0 : 0 ≤ fc) (hf1 : fc ≤ 9223372036854775807) (hb0 : 0 ≤ base) (hb1 : base + ld + n ≤ 18446744073709551615)
    (he1 : -9223372036854775808 ≤ ep) (he2 : ep ≤ 9223372036854775807) (hT : ∀ i, i < n → -9223372036854775808 ≤ T i ∧ T i ≤ 9223372036854775807) :
    Calls Try.prog 27 #[.pointer (some ⟨kb, 0, none⟩), .func (Fn.func 28) #[] #[.pointer (some ⟨N, 0, none⟩), .pointer (some ⟨N + 1, 0, none⟩), .pointer (some ⟨N + 2, 0, none⟩), .pointer (some ⟨N + 3, 0, none⟩), .pointer (some ⟨N + 5, 0, none⟩), .pointer (some ⟨N + 4, 0, none⟩)]] w fun e w' =>
      e = .returned (.tuple #[]) ∧ Ech B w w' N n K R A T D ep := by
  have hE : Ech B w w N 0 K R A T D ep := ⟨fun _ => none, fun _ => none, _, _, _, _, _, hC, fun i hi => absurd hi (by omega), Below.refl _ _⟩
  have c8 : w.cell? ⟨kb, 8, none⟩ = some (.int .u64 (base + ld)) := by obtain ⟨_, _, _, _, _, _, _, _, _, _, hk, _⟩ := hL; exact hk.front
  clear hC
  go_enter Try.func27, Try.ntmps27
  go_wp2_with fail
  go_loopw [4] (fun i wr => ∃ (k : Nat) (X : Int), k ≤ n ∧ i = .int .u64 X ∧ Hid (X = base + (ld + k)) ∧ Ech B w wr N k K R A T D ep) (fun i _ => (base + ld + n - intOf i).toNat)
  case atStart => exact ⟨0, base + ld, Nat.zero_le _, rfl, show _ = _ by omega, hE⟩
  case round =>
    clear hE c8
    obtain ⟨k, X, hk, rfl, HX, hE⟩ := hrel
    have hx := HX.out
    have hX0 : 0 ≤ X := by omega
    have hX1 : X ≤ 18446744073709551615 := by omega
    have hLr : Lay wr B kb n ld K R A T D base fc ep := hL.below (by obtain ⟨_, _, _, _, _, _, _, _, _, hB⟩ := hE; exact hB.mono hBN)
    obtain ⟨M, nb, cb, ch, g1, g2, g3, g4, g5, g6, hkr, hh, hr, hc, hby⟩ := hLr
    have c9 := hkr.next
    by_cases hlt : k < n
    · have hXn : X < base + (ld + n) := by omega
      clear hx
      have c7 : wr.cell? ⟨M + 1 + (ld + k) / 512, (ld + k) % 512 * 8 + 7, none⟩ = some (.bool (D k)) := hr k hlt 7 (by omega)
      have hrec : Hid (Calls Try.prog 38 #[.pointer (some ⟨kb, 0, none⟩), .int .u64 X] wr fun e w' => e = .returned (.pointer (some ⟨M + 1 + (ld + k) / 512, (ld + k) % 512 * 8, none⟩)) ∧ w' = wr) := rec_any kb M nb cb ld n k base _ _ fc ep X wr g6 hlt hb0 HX.out hX1 hkr hh
      have hpar : Hid (Calls Try.prog 39 #[.pointer (some ⟨kb, 0, none⟩), .int .u64 X] wr fun e w' => ∃ a0 a1 a2, e = .returned (.tuple #[.slice a0 (K k).size (K k).size, .slice a1 (R k).size (R k).size, .slice a2 (A k).size (A k).size]) ∧
          Rd B wr a0 (K k).size (byteV (K k)) ∧ Rd B wr a1 (R k).size (byteV (R k)) ∧ Rd B wr a2 (A k).size (byteV (A k)) ∧ ∃ m, w' = wr.drewN m) := parts_any B kb n ld k K R A T D base fc ep X wr ⟨M, nb, cb, ch, g1, g2, g3, g4, g5, g6, hkr, hh, hr, hc, hby⟩ hO hlt hb0 HX.out hX1 hf0 hf1
      have c1 : wr.cell? ⟨M + 1 + (ld + k) / 512, (ld + k) % 512 * 8 + 1, none⟩ = some (.int .i64 (T k)) := hr k hlt 1 (by omega)
      have e0 := hkr.ep0
      have e1 := hkr.ep1
      have e2 := hkr.ep2
      have hRB : M + 1 + (ld + k) / 512 < B := by omega
      clear hkr hh hr hc hby
      cases hd : D k
      · rw [hd] at c7
        have HD : Hid (D k = false) := hd
        clear hd
        go_wp2_with (first
          | (go_at_call 38; refine hrec.out.mono ?_; rintro e w' ⟨rfl, hw⟩; obtain rfl := hw.symm)
          | (go_at_call 39; refine hpar.out.mono ?_; rintro e w' ⟨a0, a1, a2, rfl, ra0, ra1, ra2, mm, rfl⟩))
        obtain ⟨F, G, u0, u1, u2, u3, u4, hC, hRd, hB⟩ := hE
        have hz := hC.size
        have hTk := hT k hlt
        obtain ⟨ht1, ht2⟩ := hTk
        have hl0 := live_length D k
        have hC0 : Col (wr.drewN (mm + 1)) N u0 u1 u2 u3 u4 (outK K D k) (outP R F D k) (outP A G D k) (outS T ep D k) (outN T ep D k) := hC.grown ⟨rfl, rfl, rfl, Nat.le_refl _, fun _ _ => rfl⟩
        have S0 : Sx B kb (M + 1 + (ld + k) / 512) ((ld + k) % 512 * 8) a0 ep (T k) (K k) (wr.drewN mm).drew := ⟨e0, e1, e2, c1, ra0⟩
        have S1 : Sx B kb (M + 1 + (ld + k) / 512) ((ld + k) % 512 * 8) a0 ep (T k) (K k) (wr.drewN (mm + 1)) := ⟨e0, e1, e2, c1, ra0⟩
        have hconv : ∀ W, Rd B W a0 (K k).size (byteV (K k)) → (convert 48 9 (.slice a0 (K k).size (K k).size)).run Try.prog W = .ok (.string (K k)) W := fun W h => conv_str B a0 (K k) _ W h
        have hBz0 : B ≤ (wr.drewN (mm + 1)).heap.size := show B ≤ wr.heap.size by omega
        clear e0 e1 e2 c1 c7 c9 hpar hrec hC
        go_region_held3 (fun W => W.cell? ⟨kb, 1, none⟩ = some (.int .u64 (ep % 1000000000)) ∧ W.cell? ⟨kb, 2, none⟩ = some (.int .i64 (ep / 1000000000)) ∧ W.cell? ⟨kb, 3, none⟩ = some (.pointer none) ∧ W.cell? ⟨M + 1 + (ld + k) / 512, (ld + k) % 512 * 8 + 1, none⟩ = some (.int .i64 (T k)) ∧ Rd B W a0 (K k).size (byteV (K k)))
          (first | with_reducible exact Sx.out S0 | with_reducible exact Sx.out (sx_below S1 g1 hRB hA) | with_reducible exact Sx.out (sx_below (sx_below S1 g1 hRB hA) g1 hRB hCl))
          (first
            | (go_at_call 37; refine (add_any _ _ _ (by omega) (by omega) (by omega) (by omega) ht1 ht2 _).mono ?_; rintro e wA ⟨rfl, hA'⟩; have hA := hA'.mono hBz0)
            | (go_at_call 28; refine (clos_any N u0 u1 u2 u3 u4 _ _ _ _ _ (K k) a1 a2 (R k).size (A k).size _ _ wA (hC0.grown hA') (by omega) (by omega) (by omega) (by omega) (by simp [outK]; omega) (by simp [outP]; omega) (by simp [outP]; omega) (by simp [outS]; omega) (by simp [outN]; omega)).mono ?_; rintro e wB ⟨rfl, z0, z1, z2, z3, z4, hCz, hBz⟩; have hCl := hBz.mono hBN))
        have es : ep / 1000000000 + (ep % 1000000000 + T k) / 1000000000 = (ep + T k) / 1000000000 := by omega
        rw [es] at hCz
        have S := ech_yes hCz hRd (ra1.back hB hBN) (ra2.back hB hBN) ((hB.trans (⟨rfl, rfl, rfl, Nat.le_refl _, fun _ _ => rfl⟩ : Below N wr (wr.drewN (mm + 1)))).trans ((hA'.mono (show N ≤ wr.heap.size by omega)).trans hBz)) HD.out
        clear hCz hC0 S0 S1 es hconv
        go_wp2_with fail
        go_roundw
        case rel => exact ⟨k + 1, X + 1, by omega, rfl, by have := HX.out; show _ = _; omega, S⟩
        case measure => simp [intOf]; have := HX.out; omega
      · rw [hd] at c7
        have S := ech_no hE hd
        clear hd hE
        go_wp2_with (go_at_call 38; refine hrec.out.mono ?_; rintro e w' ⟨rfl, hw⟩; obtain rfl := hw.symm)
        go_roundw
        case rel => exact ⟨k + 1, X + 1, by omega, rfl, by have := HX.out; show _ = _; omega, S⟩
        case measure => simp [intOf]; have := HX.out; omega
    · have hkn : k = n := by omega
      have hXn : base + (ld + n) ≤ X := by omega
      clear hx
      go_wp2_with fail
      go_end0
      rw [hkn] at hE
      exact ⟨rfl, hE⟩
end Go.Proofs.Qxb6603657a
