/-
  zzLayRecords, walked. By an AI agent.
-/
import Derived.Test.Qxb6603657aMid
namespace Go.Proofs.Qxb6603657a
open Go.RowKit
set_option linter.unusedVariables false

set_option maxRecDepth 100000 in
set_option maxHeartbeats 4000000 in
theorem lay_any (a0 a1 a2 a3 a4 : Option Addr) (n c0 c1 c2 c3 c4 ld nb : Nat) (K R A : Nat → ByteArray) (T : Nat → Int) (D : Nat → Bool) (base fc ep : Int) (w : World)
    (hn : n ≤ 65536) (hld : ld < 512) (hsz : offs K R A n ≤ 1048576) (hfc0 : 0 ≤ fc) (hfc1 : fc ≤ 9223372036854775807) (hb0 : 0 ≤ base) (hb1 : base + ld + n ≤ 18446744073709551615)
    (he1 : -9223372036854775808 ≤ ep) (he2 : ep ≤ 9223372036854775807) (hnb : ((ld : Int) + n + 512 - 1) / 512 = nb)
    (hK : Rd w.heap.size w a0 n fun i => .string (K i)) (hR : Rd w.heap.size w a1 n fun i => .string (R i)) (hA : Rd w.heap.size w a2 n fun i => .string (A i)) (hT : Rd w.heap.size w a3 n fun i => .int .i64 (T i)) (hD : Rd w.heap.size w a4 n fun i => .bool (D i)) :
    Calls Try.prog 20 #[.slice a0 n c0, .slice a1 n c1, .slice a2 n c2, .slice a3 n c3, .slice a4 n c4, .int .u64 base, .int .i64 ld, .int .i64 fc, .int .i64 ep] w fun e w' =>
      ∃ kb, e = .returned (.pointer (some ⟨kb, 0, none⟩)) ∧ Lay w' w'.heap.size kb n ld K R A T D base fc ep ∧ Below w.heap.size w w' := by
  have hnb1 : nb ≤ 129 := by omega
  have hmk := run_make_row' (P := Try.prog) 51 52 (.slice none 0 0) 24 Try.underlying51 Try.info52 rfl .i64 .i64 nb (by omega) (by omega)
  rw [← hnb] at hmk
  have HN : Hid (((ld : Int) + n + 512 - 1) / 512 = nb) := hnb
  have hln : ld + n ≤ 512 * nb := by omega
  clear hnb
  go_enter Try.func20, Try.ntmps20
  go_wp2_with fail
  clear hmk
  go_loopw [23] (fun i wr => ∃ b : Nat, b ≤ nb ∧ i = .int .i64 b ∧ One w wr nb ld b (recV K R A T D fc)) (fun i _ => nb - (intOf i).toNat)
  case atStart => exact ⟨0, Nat.zero_le _, rfl, one_start w nb ld _⟩
  case round =>
    obtain ⟨b, hb, rfl, h1⟩ := hrel
    by_cases hlt : b < nb
    · have hlt' : (b : Int) < ((ld : Int) + n + 512 - 1) / 512 := by rw [HN.out]; omega
      have hmk2 := make_recs
      have hd := (h1.row.alloc (.cells recZ 55)).cell hlt
      have hf := (h1.row.alloc (.cells recZ 55)).frozen b
      have S := one_step h1 hlt
      clear h1
      go_wp2_with fail
      go_roundw
      case rel => exact ⟨b + 1, by omega, by go_num, S⟩
      case measure => simp [intOf]; omega
    have h2 := h1.two (by omega)
    have hlt' : ((ld : Int) + n + 512 - 1) / 512 ≤ (b : Int) := by rw [HN.out]; omega
    clear h1
    go_wp2_with fail
    go_loopw [24] (fun i wr => ∃ q : Nat, q ≤ ld ∧ i = .int .i64 q ∧ Two w wr nb ld 0 (recV K R A T D fc)) (fun i _ => ld - (intOf i).toNat)
    case atStart => exact ⟨0, Nat.zero_le _, rfl, h2⟩
    case round =>
      clear h2
      obtain ⟨q, hq, rfl, h2⟩ := hrel
      by_cases hlq : q < ld
      · obtain ⟨j, hj⟩ : ∃ j, j = q / 512 := ⟨_, rfl⟩
        obtain ⟨m, hm⟩ : ∃ m, m = q % 512 := ⟨_, rfl⟩
        have hjn : j < nb := by omega
        have hm5 : m < 512 := by omega
        have ej : (q : Int).tdiv 512 = j := by rw [Int.tdiv_eq_ediv_of_nonneg (by omega)]; omega
        have em : (q : Int).tmod 512 = m := by rw [Int.tmod_eq_emod_of_nonneg (by omega)]; omega
        have ej' : (q : Int) / 512 = j := by omega
        have em' : (q : Int) % 512 = m := by omega
        have wj : IntKind.i64.wrap (j : Int) = j := by rw [IntKind.wrap_i64]; omega
        have wm : IntKind.i64.wrap (m : Int) = m := by rw [IntKind.wrap_i64]; omega
        have bj : (j : Int) < nb := by omega
        have bm : (m : Int) < 512 := by omega
        clear hj hm
        have hcq : wr.cell? ⟨w.heap.size, j, none⟩ = some (.slice (some ⟨w.heap.size + 1 + j, 0, none⟩) 512 512) := by rw [h2.row.cell hjn, heads, if_pos hjn]
        obtain ⟨f, hrf, _⟩ := h2.recs _ hjn
        have hblt := hrf.lt
        have hne : w.heap.size ≠ w.heap.size + 1 + j := by omega
        have k0 := hrf.cell (i := m * 8) (by omega)
        have z0 := hrf.frozen (m * 8)
        have k1 := hrf.cell (i := m * 8 + 1) (by omega)
        have z1 := hrf.frozen (m * 8 + 1)
        have k2 := hrf.cell (i := m * 8 + 2) (by omega)
        have z2 := hrf.frozen (m * 8 + 2)
        have k3 := hrf.cell (i := m * 8 + 3) (by omega)
        have z3 := hrf.frozen (m * 8 + 3)
        have k4 := hrf.cell (i := m * 8 + 4) (by omega)
        have z4 := hrf.frozen (m * 8 + 4)
        have k5 := hrf.cell (i := m * 8 + 5) (by omega)
        have z5 := hrf.frozen (m * 8 + 5)
        have k6 := hrf.cell (i := m * 8 + 6) (by omega)
        have z6 := hrf.frozen (m * 8 + 6)
        have k7 := hrf.cell (i := m * 8 + 7) (by omega)
        have z7 := hrf.frozen (m * 8 + 7)
        clear hrf
        go_wp2_with fail
        go_region_held3 (fun w' => w'.cell? ⟨w.heap.size, j, none⟩ = some (.slice (some ⟨w.heap.size + 1 + j, 0, none⟩) 512 512)) (first | with_reducible exact keep0 hcq | with_reducible exact keep1 hcq _ | with_reducible exact keep8 hcq hne _ _ _ _ _ _ _ _ _ _ _ _ _ _ _ _ _)
          (first | (go_at_call 25; refine (newRec_any _ _ _ _ _ _ _ _).mono ?_; rintro e w' ⟨rfl, rfl⟩))
        clear k0 z0 k1 z1 k2 z2 k3 z3 k4 z4 k5 z5 k6 z6 k7 z7 hcq
        have S := two_junk h2 hjn (m * 8) (.int .u64 0) (.int .i64 0) (.int .i64 fc) (.int .i64 0) (.int .i64 0) (.int .i64 0) (.int .i64 0) (.bool true) (.cells #[.int .u64 0, .int .i64 0, .int .i64 fc, .int .i64 0, .int .i64 0, .int .i64 0, .int .i64 0, .bool true] 55)
        clear h2
        go_wp2_with fail
        go_roundw
        case rel => exact ⟨q + 1, by omega, by go_num, S⟩
        case measure => simp [intOf]; omega
      go_wp2_with fail
      go_loopw [25, 26] (fun s i wr => ∃ k S : Nat, k ≤ n ∧ i = .int .i64 k ∧ s = .int .i64 S ∧ Hid (S = offs K R A k) ∧ Two w wr nb ld 0 (recV K R A T D fc)) (fun _ i _ => n - (intOf i).toNat)
      case atStart => exact ⟨0, 0, Nat.zero_le _, rfl, rfl, rfl, h2⟩
      case round =>
        clear h2
        obtain ⟨k, S, hk, rfl, rfl, HS, h2⟩ := hrel
        by_cases hlk : k < n
        · obtain ⟨kb, ko, rfl, hkB, hkc⟩ := hK (by omega)
          obtain ⟨rb, ro, rfl, hrB, hrc⟩ := hR (by omega)
          obtain ⟨ab, ao, rfl, haB, hac⟩ := hA (by omega)
          have ck : wr.cell? ⟨kb, ko + k, none⟩ = some (.string (K k)) := (h2.bel.cell (p := ⟨kb, ko + k, none⟩) hkB).trans (hkc k hlk)
          have cr : wr.cell? ⟨rb, ro + k, none⟩ = some (.string (R k)) := (h2.bel.cell (p := ⟨rb, ro + k, none⟩) hrB).trans (hrc k hlk)
          have ca : wr.cell? ⟨ab, ao + k, none⟩ = some (.string (A k)) := (h2.bel.cell (p := ⟨ab, ao + k, none⟩) haB).trans (hac k hlk)
          have hm1 : offs K R A (k + 1) ≤ 1048576 := Nat.le_trans (offs_mono K R A (show k + 1 ≤ n by omega)) hsz
          have hm2 : S + (K k).size + (R k).size + (A k).size ≤ 1048576 := by have := HS.out; rw [offs_succ] at hm1; omega
          have HS' : Hid (S + ((K k).size + (R k).size + (A k).size) = offs K R A (k + 1)) := by have := HS.out; show _ = _; rw [offs_succ]; omega
          clear hkc hrc hac hm1
          go_wp2_with fail
          go_quiet (fail)
          go_wp2_with fail
          go_roundw
          case rel => exact ⟨k + 1, S + ((K k).size + (R k).size + (A k).size), by omega, by go_num, by go_num, HS', h2.drewN _⟩
          case measure => simp [intOf]; omega
        have HSn : Hid (S = offs K R A n) := by have := HS.out; have e : k = n := by omega
                                                rw [← e]; exact this
        have hS1 : S ≤ 1048576 := by have := HSn.out; omega
        have hmk3 := make_bytes S hS1
        obtain ⟨i5, hi5, hz50, hz51, hz52⟩ := info_parts Try.info5
        have hCH := h2.size
        have h3 : Two w (wr.alloc (.cells (madeCells #[.int .u8 0] S) 5)) nb ld 0 (recV K R A T D fc) := h2.other ((Below.refl _ _).alloc hCH _)
        have hown := World.ownsRow_made (base := wr.heap.size) (e := 5) (size := 1) wr (madeCells #[.int .u8 0] S) S (Nat.le_refl _) (by unfold maxLen; omega) (by rw [size_madeCells, Nat.mul_one])
        go_wp2_with fail
        clear hmk3
        go_loopw [27, 28, 29] (fun c h i wr => ∃ (k L CH : Nat) (H : Int), k ≤ n ∧ i = .int .i64 k ∧ h = .int .i64 H ∧ 0 ≤ H ∧ H ≤ k ∧ c = .slice (some ⟨CH, 0, none⟩) L S ∧ Hid (L = offs K R A k) ∧ w.heap.size + 1 + nb ≤ CH ∧ wr.ownsRow CH 5 1 (.slice (some ⟨CH, 0, none⟩) L S) L (cat K R A k) ∧ Two w wr nb ld k (recV K R A T D fc)) (fun _ _ i _ => n - (intOf i).toNat)
        case atStart => exact ⟨0, 0, _, 0, Nat.zero_le _, rfl, rfl, by omega, by omega, rfl, rfl, hCH, hown, h3⟩
        case round =>
          clear h2 h3 hown hCH HS hlk hk
          obtain ⟨k, L, CH, H, hk, rfl, rfl, hH0, hH1, rfl, HL, hCH, hown, h2⟩ := hrel
          by_cases hlk : k < n
          · obtain ⟨kb, ko, rfl, hkB, hkc⟩ := hK (by omega)
            obtain ⟨rb, ro, rfl, hrB, hrc⟩ := hR (by omega)
            obtain ⟨ab, ao, rfl, haB, hac⟩ := hA (by omega)
            obtain ⟨tb, to, rfl, htB, htc⟩ := hT (by omega)
            obtain ⟨db, dof, rfl, hdB, hdc⟩ := hD (by omega)
            have hm1 : offs K R A (k + 1) ≤ offs K R A n := offs_mono K R A (show k + 1 ≤ n by omega)
            have hm2 : L + (K k).size + (R k).size + (A k).size ≤ S := by have := HL.out; have := HSn.out; rw [offs_succ] at hm1; omega
            have HL' : Hid (L + (K k).size + (R k).size + (A k).size = offs K R A (k + 1)) := by have := HL.out; show _ = _; rw [offs_succ]; omega
            clear hm1
            have hz0 := h2.size
            have ck : wr.cell? ⟨kb, ko + k, none⟩ = some (.string (K k)) := (h2.bel.cell (p := ⟨kb, ko + k, none⟩) hkB).trans (hkc k hlk)
            go_wp2_with (first
              | (at_builtin; refine wpList_append_fits_string _ rfl (.tmp 101) (.tmp 105) 48 9 rfl CH 5 i5 Try.underlying48 Try.underlying9 hi5 hz51 CH L S (cat K R A k) rfl hown (K k) rfl (by omega) ?_; intro w1 own1 gr1; have b1 := grown_below gr1 hCH hz0; have h21 := h2.other b1; clear h2 hown gr1 b1 ck; have hz1 := h21.size; have cr : w1.cell? ⟨rb, ro + k, none⟩ = some (.string (R k)) := (h21.bel.cell (p := ⟨rb, ro + k, none⟩) hrB).trans (hrc k hlk))
              | (at_builtin; refine wpList_append_fits_string _ rfl (.tmp 107) (.tmp 111) 48 9 rfl CH 5 i5 Try.underlying48 Try.underlying9 hi5 hz51 CH (L + (K k).size) S _ rfl own1 (R k) rfl (by omega) ?_; intro w2 own2 gr2; have b2 := grown_below gr2 hCH hz1; have h22 := h21.other b2; clear h21 own1 gr2 b2 cr; have hz2 := h22.size; have ca : w2.cell? ⟨ab, ao + k, none⟩ = some (.string (A k)) := (h22.bel.cell (p := ⟨ab, ao + k, none⟩) haB).trans (hac k hlk))
              | (at_builtin; refine wpList_append_fits_string _ rfl (.tmp 113) (.tmp 117) 48 9 rfl CH 5 i5 Try.underlying48 Try.underlying9 hi5 hz51 CH (L + (K k).size + (R k).size) S _ rfl own2 (A k) rfl (by omega) ?_; intro w3 own3 gr3; have b3 := grown_below gr3 hCH hz2; have h23 := h22.other b3; clear h22 own2 gr3 b3 ca; have hz3 := h23.size))
            obtain ⟨j, hj⟩ : ∃ j, j = (ld + k) / 512 := ⟨_, rfl⟩
            obtain ⟨m, hm⟩ : ∃ m, m = (ld + k) % 512 := ⟨_, rfl⟩
            have HJ : Hid (ld + k = 512 * j + m) := show ld + k = 512 * j + m by omega
            have hjn : j < nb := by omega
            have hm5 : m < 512 := by omega
            have ej : ((ld : Int) + k).tdiv 512 = j := by rw [Int.tdiv_eq_ediv_of_nonneg (by omega)]; omega
            have em : ((ld : Int) + k).tmod 512 = m := by rw [Int.tmod_eq_emod_of_nonneg (by omega)]; omega
            have ej' : ((ld : Int) + k) / 512 = j := by omega
            have em' : ((ld : Int) + k) % 512 = m := by omega
            have wj : IntKind.i64.wrap (j : Int) = j := by rw [IntKind.wrap_i64]; omega
            have wm : IntKind.i64.wrap (m : Int) = m := by rw [IntKind.wrap_i64]; omega
            have bj : (j : Int) < nb := by omega
            have bm : (m : Int) < 512 := by omega
            have bk : (k : Int) < n := by omega
            clear hj hm
            have ck : w3.cell? ⟨kb, ko + k, none⟩ = some (.string (K k)) := (h23.bel.cell (p := ⟨kb, ko + k, none⟩) hkB).trans (hkc k hlk)
            have cr : w3.cell? ⟨rb, ro + k, none⟩ = some (.string (R k)) := (h23.bel.cell (p := ⟨rb, ro + k, none⟩) hrB).trans (hrc k hlk)
            have ca : w3.cell? ⟨ab, ao + k, none⟩ = some (.string (A k)) := (h23.bel.cell (p := ⟨ab, ao + k, none⟩) haB).trans (hac k hlk)
            have ct : w3.cell? ⟨tb, to + k, none⟩ = some (.int .i64 (T k)) := (h23.bel.cell (p := ⟨tb, to + k, none⟩) htB).trans (htc k hlk)
            have cd : w3.cell? ⟨db, dof + k, none⟩ = some (.bool (D k)) := (h23.bel.cell (p := ⟨db, dof + k, none⟩) hdB).trans (hdc k hlk)
            have cq : w3.cell? ⟨w.heap.size, j, none⟩ = some (.slice (some ⟨w.heap.size + 1 + j, 0, none⟩) 512 512) := by rw [h23.row.cell hjn, heads, if_pos hjn]
            obtain ⟨f, hrf, _⟩ := h23.recs _ hjn
            have hblt := hrf.lt
            have nq : w.heap.size ≠ w.heap.size + 1 + j := by omega
            have nk : kb ≠ w.heap.size + 1 + j := by omega
            have nr : rb ≠ w.heap.size + 1 + j := by omega
            have na : ab ≠ w.heap.size + 1 + j := by omega
            have nt : tb ≠ w.heap.size + 1 + j := by omega
            have nd : db ≠ w.heap.size + 1 + j := by omega
            have k0 := hrf.cell (i := m * 8) (by omega)
            have z0 := hrf.frozen (m * 8)
            have k1 := hrf.cell (i := m * 8 + 1) (by omega)
            have z1 := hrf.frozen (m * 8 + 1)
            have k2 := hrf.cell (i := m * 8 + 2) (by omega)
            have z2 := hrf.frozen (m * 8 + 2)
            have k3 := hrf.cell (i := m * 8 + 3) (by omega)
            have z3 := hrf.frozen (m * 8 + 3)
            have k4 := hrf.cell (i := m * 8 + 4) (by omega)
            have z4 := hrf.frozen (m * 8 + 4)
            have k5 := hrf.cell (i := m * 8 + 5) (by omega)
            have z5 := hrf.frozen (m * 8 + 5)
            have k6 := hrf.cell (i := m * 8 + 6) (by omega)
            have z6 := hrf.frozen (m * 8 + 6)
            have k7 := hrf.cell (i := m * 8 + 7) (by omega)
            have z7 := hrf.frozen (m * 8 + 7)
            clear hrf hkc hrc hac htc hdc
            go_wp2_with fail
            go_region_held3 (fun w' => w'.cell? ⟨w.heap.size, j, none⟩ = some (.slice (some ⟨w.heap.size + 1 + j, 0, none⟩) 512 512) ∧ w'.cell? ⟨kb, ko + k, none⟩ = some (.string (K k)) ∧ w'.cell? ⟨rb, ro + k, none⟩ = some (.string (R k)) ∧ w'.cell? ⟨ab, ao + k, none⟩ = some (.string (A k)) ∧ w'.cell? ⟨tb, to + k, none⟩ = some (.int .i64 (T k)) ∧ w'.cell? ⟨db, dof + k, none⟩ = some (.bool (D k)))
              (first | with_reducible exact ⟨keep0 cq, keep0 ck, keep0 cr, keep0 ca, keep0 ct, keep0 cd⟩ | with_reducible exact ⟨keep1 cq _, keep1 ck _, keep1 cr _, keep1 ca _, keep1 ct _, keep1 cd _⟩ | with_reducible exact ⟨keep8 cq nq _ _ _ _ _ _ _ _ _ _ _ _ _ _ _ _ _, keep8 ck nk _ _ _ _ _ _ _ _ _ _ _ _ _ _ _ _ _, keep8 cr nr _ _ _ _ _ _ _ _ _ _ _ _ _ _ _ _ _, keep8 ca na _ _ _ _ _ _ _ _ _ _ _ _ _ _ _ _ _, keep8 ct nt _ _ _ _ _ _ _ _ _ _ _ _ _ _ _ _ _, keep8 cd nd _ _ _ _ _ _ _ _ _ _ _ _ _ _ _ _ _⟩)
              (first | (go_at_call 25; refine (newRec_any _ _ _ _ _ _ _ _).mono ?_; rintro e w' ⟨rfl, rfl⟩))
            clear k0 z0 k1 z1 k2 z2 k3 z3 k4 z4 k5 z5 k6 z6 k7 z7 cq ck cr ca ct
            have T2 := two_step h23 hjn HJ.out hm5 (.int .u64 0) (.int .i64 (T k)) (.int .i64 fc) (.int .i64 L) (.int .i64 ((K k).size : Nat)) (.int .i64 ((R k).size : Nat)) (.int .i64 ((A k).size : Nat)) (.bool (D k)) (.cells #[.int .u64 0, .int .i64 (T k), .int .i64 fc, .int .i64 L, .int .i64 ((K k).size : Nat), .int .i64 ((R k).size : Nat), .int .i64 ((A k).size : Nat), .bool (D k)] 55) rfl rfl rfl (by rw [HL.out]; rfl) rfl rfl rfl rfl
            have O2 := owns_of_block own3 (block8 w3 (w.heap.size + 1 + j) (m * 8) (m * 8 + 1) (m * 8 + 2) (m * 8 + 3) (m * 8 + 4) (m * 8 + 5) (m * 8 + 6) (m * 8 + 7) (.int .u64 0) (.int .i64 (T k)) (.int .i64 fc) (.int .i64 L) (.int .i64 ((K k).size : Nat)) (.int .i64 ((R k).size : Nat)) (.int .i64 ((A k).size : Nat)) (.bool (D k)) (.cells #[.int .u64 0, .int .i64 (T k), .int .i64 fc, .int .i64 L, .int .i64 ((K k).size : Nat), .int .i64 ((R k).size : Nat), .int .i64 ((A k).size : Nat), .bool (D k)] 55) CH (by omega) (owns_lt own3))
            clear own3 h23
            go_wp2_with fail
            · go_roundw
              case rel => exact ⟨k + 1, _, CH, H + 1, by omega, by go_num, rfl, by omega, by omega, rfl, HL', hCH, O2, T2⟩
              case measure => simp [intOf]; omega
            · go_roundw
              case rel => exact ⟨k + 1, _, CH, H, by omega, by go_num, rfl, by omega, by omega, rfl, HL', hCH, O2, T2⟩
              case measure => simp [intOf]; omega
          have HE : Hid (k = n) := show k = n by omega
          have hLS : L = S := (HL.out.trans (by rw [HE.out])).trans HSn.out.symm
          subst hLS
          have hmk4 := make_one
          go_wp2_with (go_at_call 26; refine (newRecs_any w.heap.size nb wr.heap.size 1 base _ _ _ fc ep he1 he2 _).mono ?_; rintro e w' ⟨kb, rfl, hkb, hkr, hbw⟩)
          go_ret
          have e := HE.out
          rw [e] at h2 hown
          rw [World.size_alloc] at hbw
          exact ⟨kb, rfl, lay_done h2 hln hCH HSn.out hown hbw hkr⟩
end Go.Proofs.Qxb6603657a
