/-
  The law's own reading of a plain numeral, at a string and at bytes, walked. By an AI agent.
-/
import Derived.Test.Qxb6003346aDoorParse
import Derived.Lib.ItoaWalk
namespace Go.Proofs.Qxb6003346aDoor
open Go.RowKit
set_option linter.unusedVariables false

/-- The text of 2^64 - 1. -/
def maxT : ByteArray := { data := #[49, 56, 52, 52, 54, 55, 52, 52, 48, 55, 51, 55, 48, 57, 53, 53, 49, 54, 49, 53] }
theorem maxT_size : maxT.size = 20 := rfl
theorem maxT_dig : Dig (byteN maxT) 20 := fun i hi => by
  have : ∀ i : Fin 20, 48 ≤ byteN maxT i.val ∧ byteN maxT i.val ≤ 57 := by decide
  exact this ⟨i, hi⟩
theorem maxT_val : valN (byteN maxT) 20 = 18446744073709551615 := by decide

theorem not_first {V : Nat → Nat} {n : Nat} (h : V 0 < 49) : ¬ Good V n := fun g => by have := g.2.2.1 0 g.1; have := g.2.2.2.1; omega
theorem not_more {V : Nat → Nat} {n k : Nat} (hn : n = 20) (hk : k < 20) (he : ∀ j, j < k → V j = byteN maxT j) (hgt : byteN maxT k < V k) : ¬ Good V n := fun g => by
  subst hn
  have h1 := lex_gt he hk maxT_dig hgt
  have h2 := g.2.2.2.2
  rw [maxT_val] at h1
  omega
theorem is_less {V : Nat → Nat} {n k : Nat} (hn : n = 20) (hk : k < 20) (hd : Dig V n) (he : ∀ j, j < k → V j = byteN maxT j) (hgt : V k < byteN maxT k) : valN V n < 18446744073709551616 := by
  subst hn
  have h1 := lex_gt (V := byteN maxT) (M := V) (fun j hj => (he j hj).symm) hk hd hgt
  rw [maxT_val] at h1
  omega
theorem is_same {V : Nat → Nat} {n : Nat} (hn : n = 20) (he : ∀ j, j < 20 → V j = byteN maxT j) : valN V n < 18446744073709551616 := by
  subst hn
  rw [valN_eq he, maxT_val]
  decide
theorem mk_good2 {V : Nat → Nat} {n : Nat} (h0 : n ≠ 0) (h1 : ¬ 20 < n) (h2 : ¬ V 0 < 49) (hd : Dig V n) (hv : valN V n < 18446744073709551616) : Good V n := mk_good h0 h1 hd (by omega) hv
theorem same_succ {V M : Nat → Nat} {k : Nat} (h : ∀ j, j < k → V j = M j) (e : V k = M k) : ∀ j, j < k + 1 → V j = M j := fun j hj => by
  by_cases he : j = k
  · rw [he]; exact e
  · exact h j (by omega)

set_option maxHeartbeats 400000 in
theorem digit_yes (c : Nat) (w : World) (h1 : 48 ≤ c) (h2 : c ≤ 57) : Calls Tryd.prog 22 #[.int .u8 c] w fun e w' => e = .returned (.bool true) ∧ w' = w := by
  have g1 : (48 : Int) ≤ c := by omega
  have g2 : (c : Int) ≤ 57 := by omega
  go_enter Tryd.func22, Tryd.ntmps22
  go_wp2_with fail
  go_ret
  exact ⟨by simp [*], rfl⟩
set_option maxHeartbeats 400000 in
theorem digit_no (c : Nat) (w : World) (h : c < 48 ∨ 57 < c) : Calls Tryd.prog 22 #[.int .u8 c] w fun e w' => e = .returned (.bool false) ∧ w' = w := by
  by_cases h1 : 48 ≤ c
  · have g1 : (48 : Int) ≤ c := by omega
    have g2 : ¬ ((c : Int) ≤ 57) := by omega
    clear h
    go_enter Tryd.func22, Tryd.ntmps22
    go_wp2_with fail
    go_ret
    exact ⟨by simp [*], rfl⟩
  · have g1 : ¬ ((48 : Int) ≤ c) := by omega
    clear h
    go_enter Tryd.func22, Tryd.ntmps22
    go_wp2_with fail
    go_ret
    exact ⟨by simp [*], rfl⟩

set_option maxRecDepth 100000 in
set_option maxHeartbeats 4000000 in
theorem plainS_any (s : ByteArray) (w : World) (hs : s.size ≤ 1048576) : Calls Tryd.prog 7 #[.string s] w fun e w' => Ans (byteN s) s.size e ∧ ∃ m, w' = w.drewN m := by
  go_enter Tryd.func7, Tryd.ntmps7
  go_name_bytes_deep 15 MX hMX
  obtain rfl : MX = maxT := hMX.symm
  clear hMX
  by_cases h0 : s.size = 0
  · have g0 : ((s.size : Int) == 0) = true := beq_iff_eq.2 (by omega)
    have Y := Lib.hid (not_nil (V := (byteN s)) h0)
    clear h0
    go_wp2_with fail
    go_ret2
    exact ⟨.inr ⟨Y.out, rfl⟩, 0, rfl⟩
  have g0 : ((s.size : Int) == 0) = false := beq_eq_false_iff_ne.2 (by omega)
  by_cases h1 : 20 < s.size
  · have g1 : (20 : Int) < s.size := by omega
    go_wp2_with fail
    go_ret2
    exact ⟨.inr ⟨not_long h1, rfl⟩, 0, rfl⟩
  have g1 : ¬ ((20 : Int) < s.size) := by omega
  have hp : 0 < s.size := by omega
  have e0 := byteN_at hp
  by_cases h2 : byteN s 0 < 49
  · have Y := Lib.hid (not_first (n := s.size) h2)
    have g2 : (((byteN s 0 : Nat) : Int) < 49) := by omega
    clear h2
    go_wp2_with fail
    go_ret2
    exact ⟨.inr ⟨Y.out, rfl⟩, 0, rfl⟩
  have g2 : ¬ (((byteN s 0 : Nat) : Int) < 49) := by omega
  by_cases h3 : 57 < byteN s 0
  · have Y := Lib.hid (not_dig (V := (byteN s)) hp (.inr h3))
    have g3 : (57 < ((byteN s 0 : Nat) : Int)) := by omega
    clear h2 h3
    go_wp2_with fail
    go_ret2
    exact ⟨.inr ⟨Y.out, rfl⟩, 0, rfl⟩
  have g3 : ¬ (57 < ((byteN s 0 : Nat) : Int)) := by omega
  have HF := Lib.hid (fun hd hv => mk_good2 (V := (byteN s)) h0 h1 h2 hd hv)
  clear h2 h3
  go_wp2_with fail
  go_loop [4] (fun i => ∃ k : Nat, k ≤ s.size ∧ i = .int .i64 k ∧ Hid (Dig (byteN s) k)) (fun i => s.size - (intOf i).toNat)
  case atStart => exact ⟨0, Nat.zero_le _, rfl, fun i hi => absurd hi (by omega)⟩
  case round =>
    clear e0 g2 g3
    obtain ⟨k, hk, rfl, HD⟩ := hrel
    by_cases hlt : k < s.size
    · have e1 := byteN_at hlt
      have g3 : (k : Int) < s.size := by omega
      have Hd := Lib.hid (fun h => not_dig (V := (byteN s)) hlt h)
      have HS := Lib.hid (fun a b => Dig.succ (V := (byteN s)) HD.out a b)
      obtain ⟨c, hcq⟩ : ∃ c, c = byteN s k := ⟨_, rfl⟩
      rw [← hcq] at e1 Hd HS
      clear hcq
      by_cases hd : c < 48 ∨ 57 < c
      · have Y := Lib.hid (Hd.out hd)
        have HH := Lib.hid hd
        clear Hd HS hd
        go_wp2_with fail
        refine (digit_no c _ HH.out).mono ?_
        rintro e w' ⟨rfl, hw⟩
        obtain rfl := hw.symm
        go_wp2_with fail
        go_ret2
        exact ⟨.inr ⟨Y.out, rfl⟩, 0, rfl⟩
      · have HS' := Lib.hid (HS.out (by omega) (by omega))
        have H1 := Lib.hid (show 48 ≤ c by omega)
        have H2 := Lib.hid (show c ≤ 57 by omega)
        clear Hd HS hd
        go_wp2_with fail
        refine (digit_yes c _ H1.out H2.out).mono ?_
        rintro e w' ⟨rfl, hw⟩
        obtain rfl := hw.symm
        go_wp2_with fail
        go_round
        case rel => exact ⟨k + 1, by omega, by go_num, HS'⟩
        case measure => simp [intOf]; omega
    · have hkn : s.size = k := by omega
      subst hkn
      have HDn := HD
      clear HD hlt hk
      by_cases h20 : s.size = 20
      · have g4 : ((s.size : Int) == 20) = true := beq_iff_eq.2 (by omega)
        have H20 := Lib.hid h20
        clear h20
        go_wp2_with fail
        go_loopw [5] (fun i wr => ∃ k q : Nat, k ≤ 20 ∧ i = .int .i64 k ∧ Hid (∀ j, j < k → byteN s j = byteN maxT j) ∧ wr = w.drewN q) (fun i _ => 20 - (intOf i).toNat)
        case atStart => exact ⟨0, 0, by omega, rfl, fun j hj => absurd hj (by omega), rfl⟩
        case round =>
          obtain ⟨k, q, hk, rfl, HE, rfl⟩ := hrel
          by_cases hlt : k < 20
          · have e1 := byteN_at (show k < s.size by have := H20.out; omega)
            have e2 := byteN_at (s := maxT) (i := k) hlt
            have g5 : (k : Int) < 20 := by omega
            have g6 : (k : Int) < s.size := by have := H20.out; omega
            have g7 : (k : Int) < maxT.size := by rw [maxT_size]; omega
            have HM := Lib.hid (fun h => not_more (V := (byteN s)) H20.out hlt HE.out h)
            have HL := Lib.hid (fun h => is_less (V := (byteN s)) H20.out hlt HDn.out HE.out h)
            have HN := Lib.hid (fun h => same_succ (V := (byteN s)) (M := byteN maxT) HE.out h)
            obtain ⟨c, hcq⟩ : ∃ c, c = byteN s k := ⟨_, rfl⟩
            obtain ⟨m, hmq⟩ : ∃ m, m = byteN maxT k := ⟨_, rfl⟩
            rw [← hcq] at e1 HM HL HN
            rw [← hmq] at e2 HM HL HN
            clear hcq hmq
            by_cases t1 : c = m
            · have b1 : ((c : Int) == m) = true := beq_iff_eq.2 (by omega)
              have HE' := Lib.hid (HN.out t1)
              clear HM HL HN t1 HE
              go_wp2_with fail
              go_quiet (fail)
              go_wp2_with fail
              go_roundw
              case rel => exact ⟨k + 1, _, by omega, by go_num, HE', rfl⟩
              case measure => simp [intOf]; omega
            · have b1 : ((c : Int) == m) = false := beq_eq_false_iff_ne.2 (by omega)
              by_cases t2 : m < c
              · have g8 : (m : Int) < c := by omega
                have Y := Lib.hid (HM.out t2)
                clear HM HL HN t1 t2 HE
                go_wp2_with fail
                go_quiet (fail)
                go_wp2_with fail
                go_quiet (fail)
                go_wp2_with fail
                go_ret2
                exact ⟨.inr ⟨Y.out, rfl⟩, by first | exact ⟨_, rfl⟩ | exact ⟨_, World.drewN_drewN _ _ _⟩ | exact ⟨_, (congrArg (fun x => World.drewN x _) (World.drewN_drewN _ _ _)).trans (World.drewN_drewN _ _ _)⟩⟩
              · have g8 : ¬ ((m : Int) < c) := by omega
                have HVn := Lib.hid (HL.out (by omega))
                have HGd := Lib.hid (HF.out HDn.out HVn.out)
                clear HM HL HN t1 t2 HE
                go_wp2_with fail
                go_quiet (fail)
                go_wp2_with fail
                go_quiet (fail)
                go_wp2_with fail
                go_loop [6, 7] (fun t i => ∃ k : Nat, k ≤ s.size ∧ i = .int .i64 k ∧ t = .int .u64 (valN (byteN s) k : Nat)) (fun _ i => s.size - (intOf i).toNat)
                case atStart => exact ⟨0, Nat.zero_le _, rfl, rfl⟩
                case round =>
                  obtain ⟨k, hk, rfl, rfl⟩ := hrel
                  by_cases hlt : k < s.size
                  · have e1 := byteN_at hlt
                    have g3 : (k : Int) < s.size := by omega
                    have hdk := HDn.out k hlt
                    have hle := valN_mono (V := (byteN s)) (show k + 1 ≤ s.size by omega)
                    have hvn := Nat.lt_of_le_of_lt hle HVn.out
                    have HV := Lib.hid (show valN (byteN s) (k + 1) = 10 * valN (byteN s) k + (byteN s k - 48) from rfl)
                    rw [HV.out] at hvn
                    obtain ⟨c, hcq⟩ : ∃ c, c = byteN s k := ⟨_, rfl⟩
                    obtain ⟨T, hTe⟩ : ∃ T, T = valN (byteN s) k := ⟨_, rfl⟩
                    rw [← hcq] at e1 HV hdk hvn
                    rw [← hTe] at HV hvn
                    rw [← hTe]
                    clear hcq hTe hle
                    obtain ⟨d, hde, hcd, hd9⟩ : ∃ d : Nat, IntKind.u8.wrap ((c : Int) - 48) = d ∧ Hid (c = d + 48) ∧ d ≤ 9 := by
                      rw [IntKind.wrap_u8']
                      exact ⟨c - 48, by omega, (show c = c - 48 + 48 by omega), by omega⟩
                    have hb : T * 10 + d < 18446744073709551616 := by have := hcd.out; omega
                    have HV' := Lib.hid (show valN (byteN s) (k + 1) = T * 10 + d by rw [HV.out, hcd.out]; omega)
                    have q2 : IntKind.u64.wrap (d : Int) = d := by rw [IntKind.wrap_u64]; omega
                    have q5 : IntKind.u64.wrap ((T : Int) * 10) = T * 10 := by rw [IntKind.wrap_u64]; omega
                    have q6 : IntKind.u64.wrap ((T : Int) * 10 + d) = T * 10 + d := by rw [IntKind.wrap_u64]; omega
                    clear HV hvn
                    go_wp2_with fail
                    go_round
                    case rel => exact ⟨k + 1, by omega, by go_num, by rw [HV'.out]; rfl⟩
                    case measure => simp [intOf]; omega
                  · have hkn : s.size = k := by omega
                    subst hkn
                    go_wp2_with fail
                    go_ret2
                    exact ⟨.inl ⟨HGd.out, rfl⟩, by first | exact ⟨_, rfl⟩ | exact ⟨_, World.drewN_drewN _ _ _⟩ | exact ⟨_, (congrArg (fun x => World.drewN x _) (World.drewN_drewN _ _ _)).trans (World.drewN_drewN _ _ _)⟩⟩
          · have hk20 : k = 20 := by omega
            have HVn := Lib.hid (is_same (V := (byteN s)) H20.out (fun j hj => HE.out j (by omega)))
            have HGd := Lib.hid (HF.out HDn.out HVn.out)
            have g5 : ¬ ((k : Int) < 20) := by omega
            clear hk20 HE
            go_wp2_with fail
            go_loop [6, 7] (fun t i => ∃ k : Nat, k ≤ s.size ∧ i = .int .i64 k ∧ t = .int .u64 (valN (byteN s) k : Nat)) (fun _ i => s.size - (intOf i).toNat)
            case atStart => exact ⟨0, Nat.zero_le _, rfl, rfl⟩
            case round =>
              obtain ⟨k, hk, rfl, rfl⟩ := hrel
              by_cases hlt : k < s.size
              · have e1 := byteN_at hlt
                have g3 : (k : Int) < s.size := by omega
                have hdk := HDn.out k hlt
                have hle := valN_mono (V := (byteN s)) (show k + 1 ≤ s.size by omega)
                have hvn := Nat.lt_of_le_of_lt hle HVn.out
                have HV := Lib.hid (show valN (byteN s) (k + 1) = 10 * valN (byteN s) k + (byteN s k - 48) from rfl)
                rw [HV.out] at hvn
                obtain ⟨c, hcq⟩ : ∃ c, c = byteN s k := ⟨_, rfl⟩
                obtain ⟨T, hTe⟩ : ∃ T, T = valN (byteN s) k := ⟨_, rfl⟩
                rw [← hcq] at e1 HV hdk hvn
                rw [← hTe] at HV hvn
                rw [← hTe]
                clear hcq hTe hle
                obtain ⟨d, hde, hcd, hd9⟩ : ∃ d : Nat, IntKind.u8.wrap ((c : Int) - 48) = d ∧ Hid (c = d + 48) ∧ d ≤ 9 := by
                  rw [IntKind.wrap_u8']
                  exact ⟨c - 48, by omega, (show c = c - 48 + 48 by omega), by omega⟩
                have hb : T * 10 + d < 18446744073709551616 := by have := hcd.out; omega
                have HV' := Lib.hid (show valN (byteN s) (k + 1) = T * 10 + d by rw [HV.out, hcd.out]; omega)
                have q2 : IntKind.u64.wrap (d : Int) = d := by rw [IntKind.wrap_u64]; omega
                have q5 : IntKind.u64.wrap ((T : Int) * 10) = T * 10 := by rw [IntKind.wrap_u64]; omega
                have q6 : IntKind.u64.wrap ((T : Int) * 10 + d) = T * 10 + d := by rw [IntKind.wrap_u64]; omega
                clear HV hvn
                go_wp2_with fail
                go_round
                case rel => exact ⟨k + 1, by omega, by go_num, by rw [HV'.out]; rfl⟩
                case measure => simp [intOf]; omega
              · have hkn : s.size = k := by omega
                subst hkn
                go_wp2_with fail
                go_ret2
                exact ⟨.inl ⟨HGd.out, rfl⟩, _, rfl⟩
      · have g4 : ((s.size : Int) == 20) = false := beq_eq_false_iff_ne.2 (by omega)
        have HVn := Lib.hid (valN_small HDn.out (by omega))
        have HGd := Lib.hid (HF.out HDn.out HVn.out)
        clear h20
        go_wp2_with fail
        go_loop [6, 7] (fun t i => ∃ k : Nat, k ≤ s.size ∧ i = .int .i64 k ∧ t = .int .u64 (valN (byteN s) k : Nat)) (fun _ i => s.size - (intOf i).toNat)
        case atStart => exact ⟨0, Nat.zero_le _, rfl, rfl⟩
        case round =>
          obtain ⟨k, hk, rfl, rfl⟩ := hrel
          by_cases hlt : k < s.size
          · have e1 := byteN_at hlt
            have g3 : (k : Int) < s.size := by omega
            have hdk := HDn.out k hlt
            have hle := valN_mono (V := (byteN s)) (show k + 1 ≤ s.size by omega)
            have hvn := Nat.lt_of_le_of_lt hle HVn.out
            have HV := Lib.hid (show valN (byteN s) (k + 1) = 10 * valN (byteN s) k + (byteN s k - 48) from rfl)
            rw [HV.out] at hvn
            obtain ⟨c, hcq⟩ : ∃ c, c = byteN s k := ⟨_, rfl⟩
            obtain ⟨T, hTe⟩ : ∃ T, T = valN (byteN s) k := ⟨_, rfl⟩
            rw [← hcq] at e1 HV hdk hvn
            rw [← hTe] at HV hvn
            rw [← hTe]
            clear hcq hTe hle
            obtain ⟨d, hde, hcd, hd9⟩ : ∃ d : Nat, IntKind.u8.wrap ((c : Int) - 48) = d ∧ Hid (c = d + 48) ∧ d ≤ 9 := by
              rw [IntKind.wrap_u8']
              exact ⟨c - 48, by omega, (show c = c - 48 + 48 by omega), by omega⟩
            have hb : T * 10 + d < 18446744073709551616 := by have := hcd.out; omega
            have HV' := Lib.hid (show valN (byteN s) (k + 1) = T * 10 + d by rw [HV.out, hcd.out]; omega)
            have q2 : IntKind.u64.wrap (d : Int) = d := by rw [IntKind.wrap_u64]; omega
            have q5 : IntKind.u64.wrap ((T : Int) * 10) = T * 10 := by rw [IntKind.wrap_u64]; omega
            have q6 : IntKind.u64.wrap ((T : Int) * 10 + d) = T * 10 + d := by rw [IntKind.wrap_u64]; omega
            clear HV hvn
            go_wp2_with fail
            go_round
            case rel => exact ⟨k + 1, by omega, by go_num, by rw [HV'.out]; rfl⟩
            case measure => simp [intOf]; omega
          · have hkn : s.size = k := by omega
            subst hkn
            go_wp2_with fail
            go_ret2
            exact ⟨.inl ⟨HGd.out, rfl⟩, 0, rfl⟩

set_option maxRecDepth 100000 in
set_option maxHeartbeats 4000000 in
theorem plainB_any (B : Nat) (ao : Option Addr) (n cp : Nat) (V : Nat → Nat) (w : World) (hs : n ≤ 1048576) (hV : ∀ i, V i < 256) (hc : Rd B w ao n V) : Calls Tryd.prog 10 #[.slice ao n cp] w fun e w' => Ans V n e ∧ ∃ m, w' = w.drewN m := by
  go_enter Tryd.func10, Tryd.ntmps10
  go_name_bytes_deep 15 MX hMX
  obtain rfl : MX = maxT := hMX.symm
  clear hMX
  by_cases h0 : n = 0
  · have g0 : ((n : Int) == 0) = true := beq_iff_eq.2 (by omega)
    have Y := Lib.hid (not_nil (V := V) h0)
    clear h0
    clear hc hV
    go_wp2_with fail
    go_ret2
    exact ⟨.inr ⟨Y.out, rfl⟩, 0, rfl⟩
  have g0 : ((n : Int) == 0) = false := beq_eq_false_iff_ne.2 (by omega)
  by_cases h1 : 20 < n
  · have g1 : (20 : Int) < n := by omega
    clear hc hV
    go_wp2_with fail
    go_ret2
    exact ⟨.inr ⟨not_long h1, rfl⟩, 0, rfl⟩
  have g1 : ¬ ((20 : Int) < n) := by omega
  have hp : 0 < n := by omega
  obtain ⟨bb, off, rfl, _, hcc⟩ := hc hp
  have e0 : w.cell? ⟨bb, off, none⟩ = some (.int .u8 (V 0 : Nat)) := hcc 0 hp
  have HC := Lib.hid hcc
  have HV256 := Lib.hid hV
  clear hcc hV
  by_cases h2 : V 0 < 49
  · have Y := Lib.hid (not_first (n := n) h2)
    have g2 : (((V 0 : Nat) : Int) < 49) := by omega
    clear h2
    go_wp2_with fail
    go_ret2
    exact ⟨.inr ⟨Y.out, rfl⟩, 0, rfl⟩
  have g2 : ¬ (((V 0 : Nat) : Int) < 49) := by omega
  by_cases h3 : 57 < V 0
  · have Y := Lib.hid (not_dig (V := V) hp (.inr h3))
    have g3 : (57 < ((V 0 : Nat) : Int)) := by omega
    clear h2 h3
    go_wp2_with fail
    go_ret2
    exact ⟨.inr ⟨Y.out, rfl⟩, 0, rfl⟩
  have g3 : ¬ (57 < ((V 0 : Nat) : Int)) := by omega
  have HF := Lib.hid (fun hd hv => mk_good2 (V := V) h0 h1 h2 hd hv)
  clear h2 h3
  go_wp2_with fail
  go_loop [4] (fun i => ∃ k : Nat, k ≤ n ∧ i = .int .i64 k ∧ Hid (Dig V k)) (fun i => n - (intOf i).toNat)
  case atStart => exact ⟨0, Nat.zero_le _, rfl, fun i hi => absurd hi (by omega)⟩
  case round =>
    clear e0 g2 g3
    obtain ⟨k, hk, rfl, HD⟩ := hrel
    by_cases hlt : k < n
    · have e1 := HC.out k hlt
      have g3 : (k : Int) < n := by omega
      have Hd := Lib.hid (fun h => not_dig (V := V) hlt h)
      have HS := Lib.hid (fun a b => Dig.succ (V := V) HD.out a b)
      obtain ⟨c, hcq⟩ : ∃ c, c = V k := ⟨_, rfl⟩
      rw [← hcq] at e1 Hd HS
      clear hcq
      by_cases hd : c < 48 ∨ 57 < c
      · have Y := Lib.hid (Hd.out hd)
        have HH := Lib.hid hd
        clear Hd HS hd
        go_wp2_with fail
        refine (digit_no c _ HH.out).mono ?_
        rintro e w' ⟨rfl, hw⟩
        obtain rfl := hw.symm
        go_wp2_with fail
        go_ret2
        exact ⟨.inr ⟨Y.out, rfl⟩, 0, rfl⟩
      · have HS' := Lib.hid (HS.out (by omega) (by omega))
        have H1 := Lib.hid (show 48 ≤ c by omega)
        have H2 := Lib.hid (show c ≤ 57 by omega)
        clear Hd HS hd
        go_wp2_with fail
        refine (digit_yes c _ H1.out H2.out).mono ?_
        rintro e w' ⟨rfl, hw⟩
        obtain rfl := hw.symm
        go_wp2_with fail
        go_round
        case rel => exact ⟨k + 1, by omega, by go_num, HS'⟩
        case measure => simp [intOf]; omega
    · have hkn : n = k := by omega
      subst hkn
      have HDn := HD
      clear HD hlt hk
      by_cases h20 : n = 20
      · have g4 : ((n : Int) == 20) = true := beq_iff_eq.2 (by omega)
        have H20 := Lib.hid h20
        clear h20
        go_wp2_with fail
        go_loopw [5] (fun i wr => ∃ k q : Nat, k ≤ 20 ∧ i = .int .i64 k ∧ Hid (∀ j, j < k → V j = byteN maxT j) ∧ wr = w.drewN q) (fun i _ => 20 - (intOf i).toNat)
        case atStart => exact ⟨0, 0, by omega, rfl, fun j hj => absurd hj (by omega), rfl⟩
        case round =>
          obtain ⟨k, q, hk, rfl, HE, rfl⟩ := hrel
          by_cases hlt : k < 20
          · have e1 := HC.out k (by have := H20.out; omega)
            have e2 := byteN_at (s := maxT) (i := k) hlt
            have g5 : (k : Int) < 20 := by omega
            have g6 : (k : Int) < n := by have := H20.out; omega
            have g7 : (k : Int) < maxT.size := by rw [maxT_size]; omega
            have HM := Lib.hid (fun h => not_more (V := V) H20.out hlt HE.out h)
            have HL := Lib.hid (fun h => is_less (V := V) H20.out hlt HDn.out HE.out h)
            have HN := Lib.hid (fun h => same_succ (V := V) (M := byteN maxT) HE.out h)
            obtain ⟨c, hcq⟩ : ∃ c, c = V k := ⟨_, rfl⟩
            obtain ⟨m, hmq⟩ : ∃ m, m = byteN maxT k := ⟨_, rfl⟩
            rw [← hcq] at e1 HM HL HN
            rw [← hmq] at e2 HM HL HN
            clear hcq hmq
            by_cases t1 : c = m
            · have b1 : ((c : Int) == m) = true := beq_iff_eq.2 (by omega)
              have HE' := Lib.hid (HN.out t1)
              clear HM HL HN t1 HE
              go_wp2_with fail
              go_quiet (fail)
              go_wp2_with fail
              go_roundw
              case rel => exact ⟨k + 1, _, by omega, by go_num, HE', rfl⟩
              case measure => simp [intOf]; omega
            · have b1 : ((c : Int) == m) = false := beq_eq_false_iff_ne.2 (by omega)
              by_cases t2 : m < c
              · have g8 : (m : Int) < c := by omega
                have Y := Lib.hid (HM.out t2)
                clear HM HL HN t1 t2 HE
                go_wp2_with fail
                go_quiet (fail)
                go_wp2_with fail
                go_quiet (fail)
                go_wp2_with fail
                go_ret2
                exact ⟨.inr ⟨Y.out, rfl⟩, by first | exact ⟨_, rfl⟩ | exact ⟨_, World.drewN_drewN _ _ _⟩ | exact ⟨_, (congrArg (fun x => World.drewN x _) (World.drewN_drewN _ _ _)).trans (World.drewN_drewN _ _ _)⟩⟩
              · have g8 : ¬ ((m : Int) < c) := by omega
                have HVn := Lib.hid (HL.out (by omega))
                have HGd := Lib.hid (HF.out HDn.out HVn.out)
                clear HM HL HN t1 t2 HE
                go_wp2_with fail
                go_quiet (fail)
                go_wp2_with fail
                go_quiet (fail)
                go_wp2_with fail
                go_loop [6, 7] (fun t i => ∃ k : Nat, k ≤ n ∧ i = .int .i64 k ∧ t = .int .u64 (valN V k : Nat)) (fun _ i => n - (intOf i).toNat)
                case atStart => exact ⟨0, Nat.zero_le _, rfl, rfl⟩
                case round =>
                  obtain ⟨k, hk, rfl, rfl⟩ := hrel
                  by_cases hlt : k < n
                  · have e1 := HC.out k hlt
                    have g3 : (k : Int) < n := by omega
                    have hdk := HDn.out k hlt
                    have hle := valN_mono (V := V) (show k + 1 ≤ n by omega)
                    have hvn := Nat.lt_of_le_of_lt hle HVn.out
                    have HV := Lib.hid (show valN V (k + 1) = 10 * valN V k + (V k - 48) from rfl)
                    rw [HV.out] at hvn
                    obtain ⟨c, hcq⟩ : ∃ c, c = V k := ⟨_, rfl⟩
                    obtain ⟨T, hTe⟩ : ∃ T, T = valN V k := ⟨_, rfl⟩
                    rw [← hcq] at e1 HV hdk hvn
                    rw [← hTe] at HV hvn
                    rw [← hTe]
                    clear hcq hTe hle
                    obtain ⟨d, hde, hcd, hd9⟩ : ∃ d : Nat, IntKind.u8.wrap ((c : Int) - 48) = d ∧ Hid (c = d + 48) ∧ d ≤ 9 := by
                      rw [IntKind.wrap_u8']
                      exact ⟨c - 48, by omega, (show c = c - 48 + 48 by omega), by omega⟩
                    have hb : T * 10 + d < 18446744073709551616 := by have := hcd.out; omega
                    have HV' := Lib.hid (show valN V (k + 1) = T * 10 + d by rw [HV.out, hcd.out]; omega)
                    have q2 : IntKind.u64.wrap (d : Int) = d := by rw [IntKind.wrap_u64]; omega
                    have q5 : IntKind.u64.wrap ((T : Int) * 10) = T * 10 := by rw [IntKind.wrap_u64]; omega
                    have q6 : IntKind.u64.wrap ((T : Int) * 10 + d) = T * 10 + d := by rw [IntKind.wrap_u64]; omega
                    clear HV hvn
                    go_wp2_with fail
                    go_round
                    case rel => exact ⟨k + 1, by omega, by go_num, by rw [HV'.out]; rfl⟩
                    case measure => simp [intOf]; omega
                  · have hkn : n = k := by omega
                    subst hkn
                    go_wp2_with fail
                    go_ret2
                    exact ⟨.inl ⟨HGd.out, rfl⟩, by first | exact ⟨_, rfl⟩ | exact ⟨_, World.drewN_drewN _ _ _⟩ | exact ⟨_, (congrArg (fun x => World.drewN x _) (World.drewN_drewN _ _ _)).trans (World.drewN_drewN _ _ _)⟩⟩
          · have hk20 : k = 20 := by omega
            have HVn := Lib.hid (is_same (V := V) H20.out (fun j hj => HE.out j (by omega)))
            have HGd := Lib.hid (HF.out HDn.out HVn.out)
            have g5 : ¬ ((k : Int) < 20) := by omega
            clear hk20 HE
            go_wp2_with fail
            go_loop [6, 7] (fun t i => ∃ k : Nat, k ≤ n ∧ i = .int .i64 k ∧ t = .int .u64 (valN V k : Nat)) (fun _ i => n - (intOf i).toNat)
            case atStart => exact ⟨0, Nat.zero_le _, rfl, rfl⟩
            case round =>
              obtain ⟨k, hk, rfl, rfl⟩ := hrel
              by_cases hlt : k < n
              · have e1 := HC.out k hlt
                have g3 : (k : Int) < n := by omega
                have hdk := HDn.out k hlt
                have hle := valN_mono (V := V) (show k + 1 ≤ n by omega)
                have hvn := Nat.lt_of_le_of_lt hle HVn.out
                have HV := Lib.hid (show valN V (k + 1) = 10 * valN V k + (V k - 48) from rfl)
                rw [HV.out] at hvn
                obtain ⟨c, hcq⟩ : ∃ c, c = V k := ⟨_, rfl⟩
                obtain ⟨T, hTe⟩ : ∃ T, T = valN V k := ⟨_, rfl⟩
                rw [← hcq] at e1 HV hdk hvn
                rw [← hTe] at HV hvn
                rw [← hTe]
                clear hcq hTe hle
                obtain ⟨d, hde, hcd, hd9⟩ : ∃ d : Nat, IntKind.u8.wrap ((c : Int) - 48) = d ∧ Hid (c = d + 48) ∧ d ≤ 9 := by
                  rw [IntKind.wrap_u8']
                  exact ⟨c - 48, by omega, (show c = c - 48 + 48 by omega), by omega⟩
                have hb : T * 10 + d < 18446744073709551616 := by have := hcd.out; omega
                have HV' := Lib.hid (show valN V (k + 1) = T * 10 + d by rw [HV.out, hcd.out]; omega)
                have q2 : IntKind.u64.wrap (d : Int) = d := by rw [IntKind.wrap_u64]; omega
                have q5 : IntKind.u64.wrap ((T : Int) * 10) = T * 10 := by rw [IntKind.wrap_u64]; omega
                have q6 : IntKind.u64.wrap ((T : Int) * 10 + d) = T * 10 + d := by rw [IntKind.wrap_u64]; omega
                clear HV hvn
                go_wp2_with fail
                go_round
                case rel => exact ⟨k + 1, by omega, by go_num, by rw [HV'.out]; rfl⟩
                case measure => simp [intOf]; omega
              · have hkn : n = k := by omega
                subst hkn
                go_wp2_with fail
                go_ret2
                exact ⟨.inl ⟨HGd.out, rfl⟩, _, rfl⟩
      · have g4 : ((n : Int) == 20) = false := beq_eq_false_iff_ne.2 (by omega)
        have HVn := Lib.hid (valN_small HDn.out (by omega))
        have HGd := Lib.hid (HF.out HDn.out HVn.out)
        clear h20
        go_wp2_with fail
        go_loop [6, 7] (fun t i => ∃ k : Nat, k ≤ n ∧ i = .int .i64 k ∧ t = .int .u64 (valN V k : Nat)) (fun _ i => n - (intOf i).toNat)
        case atStart => exact ⟨0, Nat.zero_le _, rfl, rfl⟩
        case round =>
          obtain ⟨k, hk, rfl, rfl⟩ := hrel
          by_cases hlt : k < n
          · have e1 := HC.out k hlt
            have g3 : (k : Int) < n := by omega
            have hdk := HDn.out k hlt
            have hle := valN_mono (V := V) (show k + 1 ≤ n by omega)
            have hvn := Nat.lt_of_le_of_lt hle HVn.out
            have HV := Lib.hid (show valN V (k + 1) = 10 * valN V k + (V k - 48) from rfl)
            rw [HV.out] at hvn
            obtain ⟨c, hcq⟩ : ∃ c, c = V k := ⟨_, rfl⟩
            obtain ⟨T, hTe⟩ : ∃ T, T = valN V k := ⟨_, rfl⟩
            rw [← hcq] at e1 HV hdk hvn
            rw [← hTe] at HV hvn
            rw [← hTe]
            clear hcq hTe hle
            obtain ⟨d, hde, hcd, hd9⟩ : ∃ d : Nat, IntKind.u8.wrap ((c : Int) - 48) = d ∧ Hid (c = d + 48) ∧ d ≤ 9 := by
              rw [IntKind.wrap_u8']
              exact ⟨c - 48, by omega, (show c = c - 48 + 48 by omega), by omega⟩
            have hb : T * 10 + d < 18446744073709551616 := by have := hcd.out; omega
            have HV' := Lib.hid (show valN V (k + 1) = T * 10 + d by rw [HV.out, hcd.out]; omega)
            have q2 : IntKind.u64.wrap (d : Int) = d := by rw [IntKind.wrap_u64]; omega
            have q5 : IntKind.u64.wrap ((T : Int) * 10) = T * 10 := by rw [IntKind.wrap_u64]; omega
            have q6 : IntKind.u64.wrap ((T : Int) * 10 + d) = T * 10 + d := by rw [IntKind.wrap_u64]; omega
            clear HV hvn
            go_wp2_with fail
            go_round
            case rel => exact ⟨k + 1, by omega, by go_num, by rw [HV'.out]; rfl⟩
            case measure => simp [intOf]; omega
          · have hkn : n = k := by omega
            subst hkn
            go_wp2_with fail
            go_ret2
            exact ⟨.inl ⟨HGd.out, rfl⟩, 0, rfl⟩
end Go.Proofs.Qxb6003346aDoor
