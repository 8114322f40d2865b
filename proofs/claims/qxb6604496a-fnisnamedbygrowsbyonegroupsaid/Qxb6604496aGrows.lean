/-
  FnIsNamedByGrowsByOneGroup, walked. By an AI agent.
-/
import Derived.Test.Qxb6604496aNamed
namespace Go.Proofs.Qxb6604496a
open Go.RowKit
set_option linter.unusedVariables false

/-- The groups and one more. -/
def more (n : Nat) (V : Nat → ByteArray) (g : ByteArray) : Nat → ByteArray := fun i => if i < n then V i else g
theorem among_more (x g : ByteArray) (n : Nat) (V : Nat → ByteArray) : Among x (n + 1) (more n V g) ↔ Among x n V ∨ (x.toList == g.toList) = true := by
  constructor
  · rintro ⟨i, hi, e⟩
    by_cases h : i < n
    · exact .inl ⟨i, h, by simpa [more, h] using e⟩
    · exact .inr (by simpa [more, h] using e)
  · rintro (⟨i, hi, e⟩ | e)
    · exact ⟨i, by omega, by simpa [more, hi] using e⟩
    · exact ⟨n, by omega, by simpa [more] using e⟩
theorem bool_more {t1 t2 E : Bool} {x g : ByteArray} {n : Nat} {V : Nat → ByteArray} (h1 : t1 = true ↔ Among x n V) (h2 : t2 = true ↔ Among x (n + 1) (more n V g)) (hE : (x.toList == g.toList) = E) : t2 = (t1 || E) := by
  have h : t2 = true ↔ (t1 = true ∨ E = true) := h2.trans ((among_more x g n V).trans (or_congr h1.symm (by rw [hE])))
  clear h1 h2 hE
  cases t1 <;> cases t2 <;> cases E <;> simp at h <;> rfl
/-- THE PLAIN LAW: one more group turns nothing unless the identifier is a group's and the name is hers. -/
theorem named_more (u m : ByteArray) (o : Bool) (cls : Int) (t E : Bool) (h3 : cls ≠ 3) (h6 : cls ≠ 6) (an : Bool) : named u o an cls m (t || E) = named u o an cls m t := by
  simp [named, h3, h6]
theorem named_anon (u m : ByteArray) (o : Bool) (cls : Int) (t E : Bool) : named u o true cls m (t || E) = named u o true cls m t := by
  simp [named]
theorem row_more {w : World} {b n : Nat} {V : Nat → ByteArray} (g : ByteArray) (h : w.rowIs b 9 (n + 1) (upTo (.string ByteArray.empty) (fun i => .string (V i)) n)) :
    Rd (b + 1) (w.setCell ⟨b, n, none⟩ (.string g)) (some ⟨b, 0, none⟩) (n + 1) fun i => .string (more n V g i) := by
  intro _
  refine ⟨b, 0, rfl, Nat.lt_succ_self _, fun i hi => ?_⟩
  rw [Nat.zero_add, (h.set n (.string g)).cell hi]
  unfold more upTo
  by_cases e : i = n
  · subst e; simp
  · simp [e, show i < n by omega]

set_option maxRecDepth 100000 in
set_option maxHeartbeats 1000000 in
theorem grows_any (u m g : ByteArray) (ao : Option Addr) (n c : Nat) (V : Nat → ByteArray) (o an : Bool) (cls : Int) (w : World) (hu : u.size ≤ 9223372036854775807) (hm : m.size ≤ 9223372036854775807) (hg : g.size ≤ 9223372036854775807) (hn : n ≤ 9223372036854775807) (h0 : ao = none → n = 0 ∧ c = 0) (hc : Rd w.heap.size w ao n fun i => .string (V i)) :
    Calls Try.prog 4 #[.string u, .slice ao n c, .bool o, .bool an, .int .i64 cls, .string m, .string g] w fun e w' => e = .returned (.bool true) ∧ Below w.heap.size w w' := by
  go_enter Try.func4, Try.ntmps4
  go_wp2_with fail
  refine (bytes_any w.heap.size u m g ao n c V _ _ _ _ hu hm hg hn hc).mono ?_
  rintro e w' ⟨⟨r, rfl⟩, hw⟩
  obtain rfl := hw.symm
  cases r with
  | false =>
    go_wp2_with fail
    go_ret
    exact ⟨rfl, Below.refl _ _⟩
  | true =>
  by_cases h1 : 65536 < n
  · have g1 : (65536 : Int) < n := by omega
    go_wp2_with fail
    go_ret
    exact ⟨rfl, Below.refl _ _⟩
  have g1 : ¬ (65536 : Int) < n := by omega
  go_wp2_with fail
  refine (identity_any w.heap.size u m ao n c V _ (by omega) hc).mono ?_
  rintro e w' ⟨⟨z, rfl, hz0, hz1⟩, hw⟩
  obtain rfl := hw.symm
  go_wp2_with fail
  refine (add_any _ _ _ hz0 (by omega)).mono ?_
  rintro e w' ⟨⟨z, rfl, hz0, hz1⟩, hw⟩
  obtain rfl := hw.symm
  by_cases h2 : 1048576 < z
  · go_wp2_with fail
    go_ret
    exact ⟨rfl, Below.refl _ _⟩
  go_wp2_with fail
  refine (cloneStrs_any ao n c V _ (by omega) h0 hc).mono ?_
  rintro e w1 ⟨a1, c1, rfl, hR1, hB1⟩
  clear hc h0 hz0 hz1 h2
  go_wp2_with fail
  refine (zznamed_any w1.heap.size u m a1 n c1 V o an cls _ (by omega) (Nat.le_refl _) hR1).mono ?_
  rintro e w2 ⟨⟨t1, rfl, ht1⟩, hB2⟩
  have HT1 : Hid (t1 = true ↔ Among m n V) := ht1
  have hR2 := hR1.below hB2 (Nat.le_refl _)
  have hBw2 := hB1.trans (hB2.mono hB1.size)
  have hs2 := hB2.size
  clear ht1 hR1 hB1 hB2
  obtain ⟨b1, hb1⟩ : ∃ x, x = named u o an cls m t1 := ⟨_, rfl⟩
  rw [← hb1]
  have HB1 : Hid (b1 = named u o an cls m t1) := hb1
  clear hb1
  have hmk := run_make_row' (P := Try.prog) 23 9 (.string ByteArray.empty) 16 Try.underlying23 Try.info9 rfl .i64 .i64 (n + 1) (by omega) (by omega)
  rw [show (((n + 1 : Nat)) : Int) = (n : Int) + 1 from by omega] at hmk
  go_wp2_with fail
  have hmk' := show Hid _ from hmk
  clear hmk hmk'
  go_loopw [17] (fun i wr => ∃ k : Nat, k ≤ n ∧ i = .int .i64 k ∧ wr.rowIs w2.heap.size 9 (n + 1) (upTo (.string ByteArray.empty) (fun i => .string (V i)) k) ∧ Below w2.heap.size w2 wr ∧ wr.heap.size = w2.heap.size + 1) (fun i _ => n - (intOf i).toNat)
  case atStart => exact ⟨0, Nat.zero_le _, rfl, clone_start w2 (.string ByteArray.empty) (n + 1) 9 _⟩
  case round =>
    obtain ⟨k, hk, rfl, hrow, hb, hz⟩ := hrel
    by_cases hlt : k < n
    · obtain ⟨b, off, rfl, hbB, hcc⟩ := hR2 (by omega)
      have hck : wr.cell? ⟨b, off + k, none⟩ = some (.string (V k)) := (hb.cell (p := ⟨b, off + k, none⟩) (show b < w2.heap.size by omega)).trans (hcc k hlt)
      have hd := hrow.cell (show k < n + 1 by omega)
      have hf := hrow.frozen k
      have S := clone_step hrow hb hz
      clear hcc hR2 hrow hb
      have HZ : Hid (wr.heap.size = w2.heap.size + 1) := hz
      clear hz
      have g2 : (k : Int) < n := by omega
      go_wp2_with fail
      go_roundw
      case rel => exact ⟨k + 1, by omega, by go_num, S⟩
      case measure => simp [intOf]; omega
    · have hkn : k = n := by omega
      subst hkn
      have hRm := row_more (n := k) g hrow
      have hd := hrow.cell (show k < k + 1 by omega)
      have hf := hrow.frozen k
      have hBs : Below w2.heap.size w2 (wr.setCell ⟨w2.heap.size, k, none⟩ (.string g)) := hb.setCell (p := ⟨w2.heap.size, k, none⟩) (Nat.le_refl _) _
      have hss : w2.heap.size + 1 ≤ (wr.setCell ⟨w2.heap.size, k, none⟩ (.string g)).heap.size := by rw [World.size_setCell, hz]; exact Nat.le_refl _
      have g2 : (k : Int) < k + 1 := by omega
      clear hR2 hrow hb hz hk
      go_wp2_with fail
      refine (zznamed_any (w2.heap.size + 1) u m _ (k + 1) (k + 1) (more k V g) o an cls _ (by omega) hss hRm).mono ?_
      rintro e w3 ⟨⟨t2, rfl, ht2⟩, hB3⟩
      have hBw3 : Below w.heap.size w w3 := (hBw2.trans (hBs.mono hBw2.size)).trans (hB3.mono (Nat.le_trans hBw2.size (by omega)))
      clear hBs hss hd hf hRm hB3 hBw2 hs2
      obtain ⟨E, hE⟩ : ∃ E, (m.toList == g.toList) = E := ⟨_, rfl⟩
      have e2 := bool_more HT1.out ht2 hE
      subst e2
      clear ht2
      cases an with
      | true =>
        rw [named_anon, ← HB1.out]
        cases b1 <;> (clear HB1; go_wp2_with fail; go_ret; exact ⟨rfl, hBw3⟩)
      | false =>
        by_cases h3 : cls = 3
        · subst h3
          have hb : b1 = t1 := HB1.out
          subst hb
          rw [show named u o false 3 m (b1 || E) = (b1 || E) from rfl]
          clear HB1 HT1
          cases b1 <;> cases E <;> (go_wp2_with fail; go_ret; exact ⟨rfl, hBw3⟩)
        · by_cases h6 : cls = 6
          · subst h6
            have hb : b1 = t1 := HB1.out
            subst hb
            rw [show named u o false 6 m (b1 || E) = (b1 || E) from rfl]
            clear HB1 HT1 h3
            cases b1 <;> cases E <;> (go_wp2_with fail; go_ret; exact ⟨rfl, hBw3⟩)
          · rw [named_more _ _ _ _ _ _ h3 h6, ← HB1.out]
            have b3 : (cls == 3) = false := beq_eq_false_iff_ne.2 h3
            have b6 : (cls == 6) = false := beq_eq_false_iff_ne.2 h6
            cases b1 <;> (clear HB1; go_wp2_with fail; go_ret; exact ⟨rfl, hBw3⟩)
end Go.Proofs.Qxb6604496a
