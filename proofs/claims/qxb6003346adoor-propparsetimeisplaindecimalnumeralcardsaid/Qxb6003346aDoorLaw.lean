/-
  PropParseTimeIsPlainDecimalNumeral, walked. By an AI agent.
-/
import Derived.Test.Qxb6003346aDoorBack
import Derived.Laws.CopyOwn
import Derived.Deep.OwnRows
namespace Go.Proofs.Qxb6003346aDoor
open Go.RowKit
set_option linter.unusedVariables false

theorem Tryd.info5 : (Tryd.prog.info? 5).map (fun i => (i.zero, i.size, i.bytes)) = some (some (.int .u8 0), 1, 1) := by kernel_rfl
theorem below_drewN (B : Nat) (w : World) (m : Nat) : Below B w (w.drewN m) := ⟨rfl, rfl, rfl, Nat.le_refl _, fun _ _ => rfl⟩

theorem below_of {B : Nat} {w w' : World} {m : Nat} (h : w' = w.drewN m) : Below B w w' := by rw [h]; exact below_drewN _ _ _

/-- What the walk of the second half leans on, for a slice that is read in world W2. -/
structure Half (W2 : World) (ao : Option Addr) (n cp : Nat) (V : Nat → Nat) : Prop where
  plain : ∀ W, Below W2.heap.size W2 W → Calls Tryd.prog 10 #[.slice ao n cp] W fun e w' => Ans V n e ∧ ∃ m, w' = W.drewN m
  parse : ∀ W, Below W2.heap.size W2 W → Calls Tryd.prog 11 #[.slice ao n cp] W fun e w' => Ans V n e ∧ w' = W
  eqs : ∀ W, Below W2.heap.size W2 W → Good V n → Calls Tryd.prog 12 #[.slice ao n cp, .string ⟨(Lib.decDigits (valN V n)).toArray⟩] W fun e w' => e = .returned (.bool true) ∧ ∃ m, w' = W.drewN m
theorem half_of {W2 : World} {ao : Option Addr} {n cp : Nat} {V : Nat → Nat} (hn : n ≤ 1048576) (hV : ∀ i, V i < 256) (hc : Rd W2.heap.size W2 ao n V) : Half W2 ao n cp V :=
  ⟨fun W hb => plainB_any W2.heap.size ao n cp V W hn hV (hc.below hb (Nat.le_refl _)),
   fun W hb => zzparseB_any W2.heap.size ao n cp V W hn hV (hc.below hb (Nat.le_refl _)),
   fun W hb hG => eqStr_any W2.heap.size ao n cp V _ W hn (bytes_back hG hV).1 (bytes_back hG hV).2 (hc.below hb (Nat.le_refl _))⟩

theorem info5s : (Tryd.prog.info? 5).map (·.size) = some 1 := by kernel_rfl
/-- The octets, as cells. -/
def octs (V : Nat → Nat) (n : Nat) : List Value := (List.range n).map fun i => .int .u8 (V i : Nat)
theorem octs_one {V : Nat → Nat} {n : Nat} : ∀ v ∈ octs V n, v.oneCell' = true := fun v hv => by
  obtain ⟨i, _, rfl⟩ := List.mem_map.1 hv
  rfl
theorem src_cells {w : World} {ad : Addr} {n : Nat} {V : Nat → Nat} (hc : Rd w.heap.size w (some ad) n V) (o : Obj) : ∀ j v, (octs V n)[j]? = some v → (w.alloc o).cell? (ad.add j) = some v := fun j v h => by
  have hj : j < n := by
    have := (List.getElem?_eq_some_iff.1 h).1
    simpa [octs] using this
  obtain ⟨b, off, e, hb, hcc⟩ := hc (by omega)
  obtain rfl := Option.some.inj e
  have hv : v = .int .u8 (V j : Nat) := by
    have : (octs V n)[j]? = some (.int .u8 (V j : Nat)) := by simp [octs, hj]
    exact Option.some.inj (h.symm.trans this)
  subst hv
  rw [Lib.add_plain]
  exact (World.cell?_alloc_lt w o ⟨b, off + j, none⟩ hb).trans (hcc j hj)
theorem copy_run {w : World} {ad : Addr} {n cp : Nat} {V : Nat → Nat} (hc : Rd w.heap.size w (some ad) n V) :
    ∃ W2, (Builtin.copy_ #[22, 22] 3 #[.slice (some ⟨w.heap.size, 0, none⟩) n n, .slice (some ad) n cp]).run Tryd.prog (w.alloc (.cells (madeCells #[.int .u8 0] n) 5)) = .ok (goInt n) W2 ∧
      Hid (W2.heap[w.heap.size]? = some (.cells (splice (madeCells #[.int .u8 0] n).toList 0 (octs V n)).toArray 5 (0, 0))) ∧ Below w.heap.size w W2 := by
  have hg : (w.alloc (.cells (madeCells #[.int .u8 0] n) 5)).heap[w.heap.size]? = some (.cells (madeCells #[.int .u8 0] n) 5 (0, 0)) := heap_alloc_new w _
  have hB := (Below.refl w.heap.size w).alloc (Nat.le_refl _) (.cells (madeCells #[.int .u8 0] n) 5)
  have hl : (octs V n).length = n := by simp [octs]
  have hm : (madeCells #[.int .u8 0] n).size = n := by simp [madeCells]
  by_cases h0 : n = 0
  · subst h0
    refine ⟨_, run_copy_none (P := Tryd.prog) _ 22 22 3 5 _ _ 0 0 0 cp Tryd.underlying22 info5s rfl, ?_, hB⟩
    rw [hg]
    simp [splice, octs]
    exact trivial
  · have hr := run_copy_row (P := Tryd.prog) (w.alloc (.cells (madeCells #[.int .u8 0] n) 5)) 22 22 3 5 w.heap.size 0 n n ad n cp (madeCells #[.int .u8 0] n) 5 (octs V n) Tryd.underlying22 info5s hg (by rw [hl]; exact (Nat.min_self n).symm) (src_cells hc _) (by rw [hl, hm]; omega) octs_one
    rw [hl] at hr
    refine ⟨_, hr, ?_, below_setRow hB (Nat.le_refl _) _⟩
    show _ = _
    rw [setRow_heap _ _ _ _ _ _ hg]
    simp [splice, hl]
theorem rd_copied {W : World} {g n : Nat} {cur : List Value} {t : TypeId} {V : Nat → Nat} (hl : cur.length = n) (h : W.heap[g]? = some (.cells (splice cur 0 (octs V n)).toArray t (0, 0))) : Rd W.heap.size W (some ⟨g, 0, none⟩) n V := fun _ => by
  refine ⟨g, 0, rfl, (Array.getElem?_eq_some_iff.1 h).1, fun i hi => ?_⟩
  have e : (splice cur 0 (octs V n))[i]? = some (.int .u8 (V i : Nat)) := by
    have hi' : i < (octs V n).length := by simpa [octs] using hi
    rw [splice, List.take_zero, List.nil_append, List.getElem?_append_left hi']
    simp [octs, hi]
  simp only [World.cell?, h, Nat.zero_add]
  simpa using e

set_option maxRecDepth 100000 in
set_option maxHeartbeats 4000000 in
theorem law_any (s : ByteArray) (ao : Option Addr) (n cp : Nat) (V : Nat → Nat) (w : World) (hs0 : s.size ≤ 9223372036854775807) (hn0 : n ≤ 9223372036854775807) (hV : ∀ i, V i < 256) (h0 : ao = none → n = 0 ∧ cp = 0) (hc : Rd w.heap.size w ao n V)
    (htab : Lib.TabIs Tryd.prog w "internal/strconv.uint64pow10" .u64 Lib.pow10Tab) :
    Calls Tryd.prog 3 #[.string s, .slice ao n cp] w fun e w' => e = .returned (.bool true) ∧ Below w.heap.size w w' := by
  go_enter Tryd.func3, Tryd.ntmps3
  go_wp2_with fail
  refine (lens_any s ao n cp _ hs0 hn0).mono ?_
  rintro e w' ⟨rfl | ⟨rfl, hs, hn⟩, hw⟩
  · obtain rfl := hw.symm
    go_wp2_with fail
    go_ret
    exact ⟨rfl, Below.refl _ _⟩
  obtain rfl := hw.symm
  clear hs0 hn0
  cases ao with
  | none =>
    obtain ⟨rfl, rfl⟩ := h0 rfl
    obtain ⟨W2, hW2⟩ : ∃ x, x = w := ⟨_, rfl⟩
    have HX := Lib.hid (show ∀ W, Below W2.heap.size W2 W → Below w.heap.size w W by rw [hW2]; exact fun _ h => h)
    have hH := half_of (W2 := W2) (cp := 0) hn hV (by rw [hW2]; exact hc)
    have HPB := Lib.hid hH.plain
    have HQB := Lib.hid hH.parse
    have HEB := Lib.hid hH.eqs
    have hw2 := hW2
    clear hH hc h0 hV
    subst hw2
    go_wp2_with fail
    refine (plainS_any s _ hs).mono ?_
    rintro e w3 ⟨⟨hGs, rfl⟩ | ⟨hGs, rfl⟩, m3, hw3⟩
    · have HW3 := Lib.hid (show Below W2.heap.size W2 w3 by rw [hw3]; exact below_drewN _ _ m3)
      have HG := Lib.hid hGs
      clear hGs hw3
      go_wp2_with fail
      refine (zzparseS_any s _ hs).mono ?_
      rintro e w4 ⟨⟨hGs, rfl⟩ | ⟨hGs, rfl⟩, hw4⟩
      · obtain rfl := hw4.symm
        have hv := HG.out.2.2.2.2
        clear hGs hw4
        go_wp2_with fail
        refine (string_any _ hv _ (tab_below htab (HX.out _ HW3.out))).mono ?_
        rintro e w9 ⟨rfl, hB9⟩
        rw [str_back HG.out]
        have HW := Lib.hid (HW3.out.trans (hB9.mono HW3.out.size))
        clear hB9 hv
        go_wp2_with fail
        refine (HPB.out _ HW.out).mono ?_
        rintro e w5 ⟨⟨hGb, rfl⟩ | ⟨hGb, rfl⟩, m5, hw5⟩
        · have HW5 := Lib.hid (HW.out.trans (below_of hw5))
          have HG2 := Lib.hid hGb
          clear hGb hw5
          go_wp2_with fail
          refine (HQB.out _ HW5.out).mono ?_
          rintro e w6 ⟨⟨hGb, rfl⟩ | ⟨hGb, rfl⟩, hw6⟩
          · obtain rfl := hw6.symm
            have hv := HG2.out.2.2.2.2
            clear hGb hw6
            go_wp2_with fail
            refine (string_any _ hv _ (tab_below htab (HX.out _ HW5.out))).mono ?_
            rintro e w7 ⟨rfl, hB7⟩
            have HB7 := Lib.hid (HW5.out.trans (hB7.mono HW5.out.size))
            clear hB7 hv
            go_wp2_with fail
            refine (HEB.out _ HB7.out HG2.out).mono ?_
            rintro e w8 ⟨rfl, m8, hw8⟩
            have HW8 := Lib.hid (HB7.out.trans (below_of hw8))
            clear hw8
            go_wp2_with fail
            go_ret
            exact ⟨rfl, HX.out _ HW8.out⟩
          · exact absurd HG2.out hGb
        · have HW5 := Lib.hid (HW.out.trans (below_of hw5))
          have HG2 := Lib.hid hGb
          clear hGb hw5
          go_wp2_with fail
          refine (HQB.out _ HW5.out).mono ?_
          rintro e w6 ⟨⟨hGb, rfl⟩ | ⟨hGb, rfl⟩, hw6⟩
          · exact absurd hGb HG2.out
          · obtain rfl := hw6.symm
            clear hGb hw6
            go_wp2_with fail
            go_ret
            exact ⟨rfl, HX.out _ HW5.out⟩
      · exact absurd HG.out hGs
    · have HW := Lib.hid (show Below W2.heap.size W2 w3 by rw [hw3]; exact below_drewN _ _ m3)
      have HG := Lib.hid hGs
      clear hGs hw3
      go_wp2_with fail
      refine (zzparseS_any s _ hs).mono ?_
      rintro e w4 ⟨⟨hGs, rfl⟩ | ⟨hGs, rfl⟩, hw4⟩
      · exact absurd hGs HG.out
      · obtain rfl := hw4.symm
        clear hGs hw4
        go_wp2_with fail
        refine (HPB.out _ HW.out).mono ?_
        rintro e w5 ⟨⟨hGb, rfl⟩ | ⟨hGb, rfl⟩, m5, hw5⟩
        · have HW5 := Lib.hid (HW.out.trans (below_of hw5))
          have HG2 := Lib.hid hGb
          clear hGb hw5
          go_wp2_with fail
          refine (HQB.out _ HW5.out).mono ?_
          rintro e w6 ⟨⟨hGb, rfl⟩ | ⟨hGb, rfl⟩, hw6⟩
          · obtain rfl := hw6.symm
            have hv := HG2.out.2.2.2.2
            clear hGb hw6
            go_wp2_with fail
            refine (string_any _ hv _ (tab_below htab (HX.out _ HW5.out))).mono ?_
            rintro e w7 ⟨rfl, hB7⟩
            have HB7 := Lib.hid (HW5.out.trans (hB7.mono HW5.out.size))
            clear hB7 hv
            go_wp2_with fail
            refine (HEB.out _ HB7.out HG2.out).mono ?_
            rintro e w8 ⟨rfl, m8, hw8⟩
            have HW8 := Lib.hid (HB7.out.trans (below_of hw8))
            clear hw8
            go_wp2_with fail
            go_ret
            exact ⟨rfl, HX.out _ HW8.out⟩
          · exact absurd HG2.out hGb
        · have HW5 := Lib.hid (HW.out.trans (below_of hw5))
          have HG2 := Lib.hid hGb
          clear hGb hw5
          go_wp2_with fail
          refine (HQB.out _ HW5.out).mono ?_
          rintro e w6 ⟨⟨hGb, rfl⟩ | ⟨hGb, rfl⟩, hw6⟩
          · exact absurd hGb HG2.out
          · obtain rfl := hw6.symm
            clear hGb hw6
            go_wp2_with fail
            go_ret
            exact ⟨rfl, HX.out _ HW5.out⟩
  | some ad =>
    have heq := fun w => run_neq_slice_nil_any (P := Tryd.prog) w 22 5 (some ad) n cp 0 0 Tryd.underlying22
    have hmk := run_make_row' (P := Tryd.prog) 22 5 (.int .u8 0) 1 Tryd.underlying22 Tryd.info5 rfl .i64 .i64 n (by omega) (by omega)
    obtain ⟨W2, hcp, HR, HB2⟩ := copy_run (cp := cp) hc
    clear h0 hc
    go_wp2_with fail
    have HX := Lib.hid (show ∀ W, Below W2.heap.size W2 W → Below w.heap.size w W from fun W h => HB2.trans (h.mono HB2.size))
    have hH := half_of (W2 := W2) (cp := n) hn hV (rd_copied (by simp [madeCells]) HR.out)
    have HPB := Lib.hid hH.plain
    have HQB := Lib.hid hH.parse
    have HEB := Lib.hid hH.eqs
    clear hH hV heq hmk hcp HR HB2
    refine (plainS_any s _ hs).mono ?_
    rintro e w3 ⟨⟨hGs, rfl⟩ | ⟨hGs, rfl⟩, m3, hw3⟩
    · have HW3 := Lib.hid (show Below W2.heap.size W2 w3 by rw [hw3]; exact below_drewN _ _ m3)
      have HG := Lib.hid hGs
      clear hGs hw3
      go_wp2_with fail
      refine (zzparseS_any s _ hs).mono ?_
      rintro e w4 ⟨⟨hGs, rfl⟩ | ⟨hGs, rfl⟩, hw4⟩
      · obtain rfl := hw4.symm
        have hv := HG.out.2.2.2.2
        clear hGs hw4
        go_wp2_with fail
        refine (string_any _ hv _ (tab_below htab (HX.out _ HW3.out))).mono ?_
        rintro e w9 ⟨rfl, hB9⟩
        rw [str_back HG.out]
        have HW := Lib.hid (HW3.out.trans (hB9.mono HW3.out.size))
        clear hB9 hv
        go_wp2_with fail
        refine (HPB.out _ HW.out).mono ?_
        rintro e w5 ⟨⟨hGb, rfl⟩ | ⟨hGb, rfl⟩, m5, hw5⟩
        · have HW5 := Lib.hid (HW.out.trans (below_of hw5))
          have HG2 := Lib.hid hGb
          clear hGb hw5
          go_wp2_with fail
          refine (HQB.out _ HW5.out).mono ?_
          rintro e w6 ⟨⟨hGb, rfl⟩ | ⟨hGb, rfl⟩, hw6⟩
          · obtain rfl := hw6.symm
            have hv := HG2.out.2.2.2.2
            clear hGb hw6
            go_wp2_with fail
            refine (string_any _ hv _ (tab_below htab (HX.out _ HW5.out))).mono ?_
            rintro e w7 ⟨rfl, hB7⟩
            have HB7 := Lib.hid (HW5.out.trans (hB7.mono HW5.out.size))
            clear hB7 hv
            go_wp2_with fail
            refine (HEB.out _ HB7.out HG2.out).mono ?_
            rintro e w8 ⟨rfl, m8, hw8⟩
            have HW8 := Lib.hid (HB7.out.trans (below_of hw8))
            clear hw8
            go_wp2_with fail
            go_ret
            exact ⟨rfl, HX.out _ HW8.out⟩
          · exact absurd HG2.out hGb
        · have HW5 := Lib.hid (HW.out.trans (below_of hw5))
          have HG2 := Lib.hid hGb
          clear hGb hw5
          go_wp2_with fail
          refine (HQB.out _ HW5.out).mono ?_
          rintro e w6 ⟨⟨hGb, rfl⟩ | ⟨hGb, rfl⟩, hw6⟩
          · exact absurd hGb HG2.out
          · obtain rfl := hw6.symm
            clear hGb hw6
            go_wp2_with fail
            go_ret
            exact ⟨rfl, HX.out _ HW5.out⟩
      · exact absurd HG.out hGs
    · have HW := Lib.hid (show Below W2.heap.size W2 w3 by rw [hw3]; exact below_drewN _ _ m3)
      have HG := Lib.hid hGs
      clear hGs hw3
      go_wp2_with fail
      refine (zzparseS_any s _ hs).mono ?_
      rintro e w4 ⟨⟨hGs, rfl⟩ | ⟨hGs, rfl⟩, hw4⟩
      · exact absurd hGs HG.out
      · obtain rfl := hw4.symm
        clear hGs hw4
        go_wp2_with fail
        refine (HPB.out _ HW.out).mono ?_
        rintro e w5 ⟨⟨hGb, rfl⟩ | ⟨hGb, rfl⟩, m5, hw5⟩
        · have HW5 := Lib.hid (HW.out.trans (below_of hw5))
          have HG2 := Lib.hid hGb
          clear hGb hw5
          go_wp2_with fail
          refine (HQB.out _ HW5.out).mono ?_
          rintro e w6 ⟨⟨hGb, rfl⟩ | ⟨hGb, rfl⟩, hw6⟩
          · obtain rfl := hw6.symm
            have hv := HG2.out.2.2.2.2
            clear hGb hw6
            go_wp2_with fail
            refine (string_any _ hv _ (tab_below htab (HX.out _ HW5.out))).mono ?_
            rintro e w7 ⟨rfl, hB7⟩
            have HB7 := Lib.hid (HW5.out.trans (hB7.mono HW5.out.size))
            clear hB7 hv
            go_wp2_with fail
            refine (HEB.out _ HB7.out HG2.out).mono ?_
            rintro e w8 ⟨rfl, m8, hw8⟩
            have HW8 := Lib.hid (HB7.out.trans (below_of hw8))
            clear hw8
            go_wp2_with fail
            go_ret
            exact ⟨rfl, HX.out _ HW8.out⟩
          · exact absurd HG2.out hGb
        · have HW5 := Lib.hid (HW.out.trans (below_of hw5))
          have HG2 := Lib.hid hGb
          clear hGb hw5
          go_wp2_with fail
          refine (HQB.out _ HW5.out).mono ?_
          rintro e w6 ⟨⟨hGb, rfl⟩ | ⟨hGb, rfl⟩, hw6⟩
          · exact absurd hGb HG2.out
          · obtain rfl := hw6.symm
            clear hGb hw6
            go_wp2_with fail
            go_ret
            exact ⟨rfl, HX.out _ HW5.out⟩
end Go.Proofs.Qxb6003346aDoor
