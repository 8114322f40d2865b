/-
  zzMatchesLive, walked, where what was handed out is what was laid. By an AI agent.
-/
import Derived.Test.Qxb6603657aEachRel
namespace Go.Proofs.Qxb6603657a
open Go.RowKit
set_option linter.unusedVariables false

theorem live_mono (D : Nat → Bool) {k n : Nat} (h : k ≤ n) : ∃ t, live D n = live D k ++ t := by
  induction n with
  | zero => obtain rfl : k = 0 := (by omega); exact ⟨[], by simp⟩
  | succ n ih =>
    by_cases e : k = n + 1
    · subst e; exact ⟨[], by simp⟩
    · obtain ⟨t, ht⟩ := ih (by omega)
      exact ⟨t ++ (if D n then [] else [n]), by rw [live, ht, List.append_assoc]⟩
theorem live_at (D : Nat → Bool) {k n : Nat} (h : k < n) (hd : D k = false) : (live D k).length < (live D n).length ∧ (live D n).getD (live D k).length 0 = k := by
  obtain ⟨t, ht⟩ := live_mono D (show k + 1 ≤ n by omega)
  rw [live_yes hd, List.append_assoc] at ht
  rw [ht]
  refine ⟨by simp, ?_⟩
  simp [List.getD]

theorem quiet_of2 {P : Program} {f : FuncId} {args : Array Value} {w : World} {q x : Nat} {v : Value} (h : Calls P f args (w.drewN (q + x)) fun e w' => e = .returned v ∧ ∃ m, w' = (w.drewN (q + x)).drewN m) :
    Calls P f args (w.drewN (q + x)) fun e w'' => e = .returned v ∧ ∃ m, w'' = w.drewN (q + m) :=
  h.mono fun _ _ ⟨he, m, hm⟩ => ⟨he, x + m, by rw [hm, World.drewN_drewN, Nat.add_assoc]⟩

set_option maxRecDepth 100000 in
set_option maxHeartbeats 2000000 in
theorem matches_any (B : Nat) (a0 a1 a2 a3 a4 b0 b1 b2 b3 b4 : Option Addr) (n c0 c1 c2 c3 c4 d0 d1 d2 d3 d4 : Nat) (K R A : Nat → ByteArray) (T : Nat → Int) (D : Nat → Bool) (ep : Int) (F G : Nat → Option Addr) (w : World)
    (hn : n ≤ 65536) (he1 : -9223372036854775808 ≤ ep) (he2 : ep ≤ 9223372036854775807) (hTb : ∀ i, i < n → -9223372036854775808 ≤ T i ∧ T i ≤ 9223372036854775807) (hRs : ∀ i, i < n → (R i).size ≤ 1048576) (hAs : ∀ i, i < n → (A i).size ≤ 1048576)
    (hK : Rd B w a0 n fun i => .string (K i)) (hR : Rd B w a1 n fun i => .string (R i)) (hA : Rd B w a2 n fun i => .string (A i)) (hT : Rd B w a3 n fun i => .int .i64 (T i)) (hD : Rd B w a4 n fun i => .bool (D i))
    (gK : Rd B w b0 (live D n).length fun j => .string (K ((live D n).getD j 0))) (gR : Rd B w b1 (live D n).length fun j => .slice (F ((live D n).getD j 0)) (R ((live D n).getD j 0)).size (R ((live D n).getD j 0)).size)
    (gA : Rd B w b2 (live D n).length fun j => .slice (G ((live D n).getD j 0)) (A ((live D n).getD j 0)).size (A ((live D n).getD j 0)).size) (gS : Rd B w b3 (live D n).length fun j => .int .i64 ((ep + T ((live D n).getD j 0)) / 1000000000))
    (gN : Rd B w b4 (live D n).length fun j => .int .i64 ((ep + T ((live D n).getD j 0)) % 1000000000)) (hF : ∀ i, i < n → D i = false → Rd B w (F i) (R i).size (byteV (R i)) ∧ Rd B w (G i) (A i).size (byteV (A i))) :
    Calls Try.prog 22 #[.slice a0 n c0, .slice a1 n c1, .slice a2 n c2, .slice a3 n c3, .slice a4 n c4, .int .i64 ep, .slice b0 (live D n).length d0, .slice b1 (live D n).length d1, .slice b2 (live D n).length d2, .slice b3 (live D n).length d3, .slice b4 (live D n).length d4] w fun e w' =>
      e = .returned (.bool true) ∧ ∃ m, w' = w.drewN m := by
  have hL := live_length D n
  obtain ⟨L, hLe⟩ : ∃ L, L = (live D n).length := ⟨_, rfl⟩
  rw [← hLe] at hL gK gR gA gS gN ⊢
  have HL : Hid (L = (live D n).length) := hLe
  clear hLe
  go_enter Try.func22, Try.ntmps22
  go_wp2_with fail
  go_loopw [23, 24] (fun m i wr => ∃ k p q : Nat, k ≤ n ∧ i = .int .i64 k ∧ m = .int .i64 p ∧ Hid (p = (live D k).length) ∧ p ≤ L ∧ wr = w.drewN q) (fun _ i _ => n - (intOf i).toNat)
  case atStart => exact ⟨0, 0, 0, Nat.zero_le _, rfl, rfl, rfl, Nat.zero_le _, rfl⟩
  case round =>
    obtain ⟨k, p, q, hk, rfl, rfl, HP, hpL, rfl⟩ := hrel
    by_cases hlt : k < n
    · obtain ⟨db, dof, rfl, hdB, hdc⟩ := hD (by omega)
      have cd : w.cell? ⟨db, dof + k, none⟩ = some (.bool (D k)) := hdc k hlt
      clear hdc
      cases hd : D k
      · rw [hd] at cd
        obtain ⟨hp1, hp2⟩ := live_at D hlt hd
        rw [← HP.out, ← HL.out] at hp1
        rw [← HP.out] at hp2
        have hL0 : 0 < L := by omega
        obtain ⟨kb, ko, rfl, hkB, hkc⟩ := hK (by omega)
        obtain ⟨rb, ro, rfl, hrB, hrc⟩ := hR (by omega)
        obtain ⟨ab, ao, rfl, haB, hac⟩ := hA (by omega)
        obtain ⟨tb, tof, rfl, htB, htc⟩ := hT (by omega)
        obtain ⟨gkb, gko, rfl, _, gkc⟩ := gK hL0
        obtain ⟨grb, gro, rfl, _, grc⟩ := gR hL0
        obtain ⟨gab, gao, rfl, _, gac⟩ := gA hL0
        obtain ⟨gsb, gso, rfl, _, gsc⟩ := gS hL0
        obtain ⟨gnb, gno, rfl, _, gnc⟩ := gN hL0
        have ck : w.cell? ⟨kb, ko + k, none⟩ = some (.string (K k)) := hkc k hlt
        have cr : w.cell? ⟨rb, ro + k, none⟩ = some (.string (R k)) := hrc k hlt
        have ca : w.cell? ⟨ab, ao + k, none⟩ = some (.string (A k)) := hac k hlt
        have ct : w.cell? ⟨tb, tof + k, none⟩ = some (.int .i64 (T k)) := htc k hlt
        have xk : w.cell? ⟨gkb, gko + p, none⟩ = some (.string (K k)) := by have h := gkc p hp1; simp only [hp2] at h; exact h
        have xr : w.cell? ⟨grb, gro + p, none⟩ = some (.slice (F k) (R k).size (R k).size) := by have h := grc p hp1; simp only [hp2] at h; exact h
        have xa : w.cell? ⟨gab, gao + p, none⟩ = some (.slice (G k) (A k).size (A k).size) := by have h := gac p hp1; simp only [hp2] at h; exact h
        have xs : w.cell? ⟨gsb, gso + p, none⟩ = some (.int .i64 ((ep + T k) / 1000000000)) := by have h := gsc p hp1; simp only [hp2] at h; exact h
        have xn : w.cell? ⟨gnb, gno + p, none⟩ = some (.int .i64 ((ep + T k) % 1000000000)) := by have h := gnc p hp1; simp only [hp2] at h; exact h
        obtain ⟨ht1, ht2⟩ := hTb k hlt
        have fR := hRs k hlt
        have fA := hAs k hlt
        obtain ⟨rF, rG⟩ := hF k hlt hd
        have HP' : Hid (p + 1 = (live D (k + 1)).length) := show p + 1 = _ by rw [live_yes hd, List.length_append, ← HP.out]; rfl
        have bp : (p : Int) < L := by omega
        have bk : (k : Int) < n := by omega
        clear hd hp2 hkc hrc hac htc gkc grc gac gsc gnc hF hRs hAs hTb
        go_wp2_with (go_at_call 31; refine (epochPlus_any _ _ he1 he2 ht1 ht2 _).mono ?_; rintro e w' ⟨rfl, rfl⟩)
        go_quiet (first
          | (go_at_call_of 32 (Value.string (R k)); refine quiet_of2 (bytesAre_any B (F k) (R k).size (R k) _ fR ?_); exact rF)
          | (go_at_call_of 32 (Value.string (A k)); refine quiet_of2 (bytesAre_any B (G k) (A k).size (A k) _ fA ?_); exact rG))
        go_wp2_with fail
        go_roundw
        case rel => exact ⟨k + 1, p + 1, _, by omega, by go_num, by go_num, HP', by omega, rfl⟩
        case measure => simp [intOf]; omega
      · rw [hd] at cd
        have HP' : Hid (p = (live D (k + 1)).length) := show p = _ by rw [live_no hd]; exact HP.out
        clear hd
        go_wp2_with fail
        go_roundw
        case rel => exact ⟨k + 1, p, q, by omega, by go_num, rfl, HP', hpL, rfl⟩
        case measure => simp [intOf]; omega
    · have hkn : k = n := by omega
      have hpe : p = L := by rw [HP.out, HL.out, hkn]
      subst hpe
      clear hkn
      go_wp2_with fail
      go_ret
      exact ⟨rfl, _, rfl⟩
end Go.Proofs.Qxb6603657a
