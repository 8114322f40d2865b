/-
  The text and its numeral; zzEqStr, the two exported parsers, the bound on the lengths. By an AI agent.
-/
import Derived.Test.Qxb6003346aDoorNum
namespace Go.Proofs.Qxb6003346aDoor
open Go.RowKit
set_option linter.unusedVariables false

theorem good_dec {V : Nat → Nat} {n : Nat} (h : Good V n) : Lib.decDigits (valN V n) = (List.range n).map fun i => UInt8.ofNat (V i) := by
  obtain ⟨h0, h1, hd, hz, hv⟩ := h
  cases n with
  | zero => omega
  | succ n => exact dec_val hd hz
theorem str_back {s : ByteArray} (h : Good (byteN s) s.size) : (⟨(Lib.decDigits (valN (byteN s) s.size)).toArray⟩ : ByteArray) = s := by
  rw [good_dec h]
  have : ((List.range s.size).map fun i => UInt8.ofNat (byteN s i)).toArray = s.data := by
    apply Array.ext
    · rw [List.size_toArray, List.length_map, List.length_range]; rfl
    · intro i h1 h2
      have hi : i < s.size := h2
      simp only [List.getElem_toArray, List.getElem_map, List.getElem_range]
      rw [← byteN_at hi, UInt8.ofNat_toNat]
      rfl
  rw [this]
theorem bytes_back {V : Nat → Nat} {n : Nat} (h : Good V n) (hV : ∀ i, V i < 256) : (⟨(Lib.decDigits (valN V n)).toArray⟩ : ByteArray).size = n ∧ ∀ i, i < n → byteN (⟨(Lib.decDigits (valN V n)).toArray⟩ : ByteArray) i = V i := by
  rw [good_dec h]
  have hsz : (⟨((List.range n).map fun i => UInt8.ofNat (V i)).toArray⟩ : ByteArray).size = n := by simp [ByteArray.size]
  refine ⟨hsz, fun i hi => ?_⟩
  simp [byteN, bts, List.getD, hi, Nat.mod_eq_of_lt (hV i)]

set_option maxHeartbeats 400000 in
theorem zzparseS_any (s : ByteArray) (w : World) (hs : s.size ≤ 1048576) : Calls Tryd.prog 8 #[.string s] w fun e w' => Ans (byteN s) s.size e ∧ w' = w := by
  go_enter Tryd.func8, Tryd.ntmps8
  go_wp2_with fail
  refine (parseS_any s _ hs).mono ?_
  rintro e w' ⟨⟨hG, rfl⟩ | ⟨hG, rfl⟩, hw⟩
  · obtain rfl := hw.symm
    have H := Lib.hid hG
    clear hG
    go_wp2_with fail
    go_ret2
    exact ⟨.inl ⟨H.out, rfl⟩, rfl⟩
  · obtain rfl := hw.symm
    have H := Lib.hid hG
    clear hG
    go_wp2_with fail
    go_ret2
    exact ⟨.inr ⟨H.out, rfl⟩, rfl⟩
set_option maxHeartbeats 400000 in
theorem zzparseB_any (B : Nat) (ao : Option Addr) (n cp : Nat) (V : Nat → Nat) (w : World) (hs : n ≤ 1048576) (hV : ∀ i, V i < 256) (hc : Rd B w ao n V) : Calls Tryd.prog 11 #[.slice ao n cp] w fun e w' => Ans V n e ∧ w' = w := by
  have H0 := Lib.hid (parseB_any B ao n cp V w hs hV hc)
  clear hV hc
  go_enter Tryd.func11, Tryd.ntmps11
  go_wp2_with fail
  refine H0.out.mono ?_
  rintro e w' ⟨⟨hG, rfl⟩ | ⟨hG, rfl⟩, hw⟩
  · obtain rfl := hw.symm
    have H := Lib.hid hG
    clear hG
    go_wp2_with fail
    go_ret2
    exact ⟨.inl ⟨H.out, rfl⟩, rfl⟩
  · obtain rfl := hw.symm
    have H := Lib.hid hG
    clear hG
    go_wp2_with fail
    go_ret2
    exact ⟨.inr ⟨H.out, rfl⟩, rfl⟩

set_option maxRecDepth 100000 in
set_option maxHeartbeats 1000000 in
theorem eqStr_any (B : Nat) (ao : Option Addr) (n cp : Nat) (V : Nat → Nat) (t : ByteArray) (w : World) (hn : n ≤ 1048576) (ht : t.size = n) (he : ∀ i, i < n → byteN t i = V i) (hc : Rd B w ao n V) :
    Calls Tryd.prog 12 #[.slice ao n cp, .string t] w fun e w' => e = .returned (.bool true) ∧ ∃ m, w' = w.drewN m := by
  have HT := Lib.hid ht
  have g0 : ((n : Int) == t.size) = true := beq_iff_eq.2 (by omega)
  have HE := Lib.hid he
  have HC := Lib.hid hc
  clear ht he hc
  go_enter Tryd.func12, Tryd.ntmps12
  go_wp2_with fail
  go_loopw [5] (fun i wr => ∃ k q : Nat, k ≤ n ∧ i = .int .i64 k ∧ wr = w.drewN q) (fun i _ => n - (intOf i).toNat)
  case atStart => exact ⟨0, 0, Nat.zero_le _, rfl, rfl⟩
  case round =>
    obtain ⟨k, q, hk, rfl, rfl⟩ := hrel
    by_cases hlt : k < n
    · obtain ⟨bb, off, rfl, _, hcc⟩ := HC.out (by omega)
      have e1 := hcc k hlt
      have e2 := byteN_at (show k < t.size by have := HT.out; omega)
      rw [HE.out k hlt] at e2
      have g1 : (k : Int) < n := by omega
      have g2 : (k : Int) < t.size := by have := HT.out; omega
      clear hcc
      obtain ⟨c, hcq⟩ : ∃ c, c = V k := ⟨_, rfl⟩
      rw [← hcq] at e1 e2
      clear hcq
      go_wp2_with fail
      go_quiet (fail)
      go_wp2_with fail
      go_roundw
      case rel => exact ⟨k + 1, _, by omega, by go_num, rfl⟩
      case measure => simp [intOf]; omega
    · have g1 : ¬ ((k : Int) < n) := by omega
      go_wp2_with fail
      go_ret
      exact ⟨rfl, _, rfl⟩

set_option maxHeartbeats 400000 in
theorem lens_any (s : ByteArray) (ao : Option Addr) (n cp : Nat) (w : World) (hs : s.size ≤ 9223372036854775807) (hn : n ≤ 9223372036854775807) :
    Calls Tryd.prog 6 #[.string s, .slice ao n cp] w fun e w' => (e = .returned (.bool false) ∨ (e = .returned (.bool true) ∧ s.size ≤ 1048576 ∧ n ≤ 1048576)) ∧ w' = w := by
  go_enter Tryd.func6, Tryd.ntmps6
  by_cases h1 : 1048576 < s.size
  · have g1 : (1048576 : Int) < s.size := by omega
    go_wp2_with fail
    go_ret
    exact ⟨.inl rfl, rfl⟩
  have g1 : ¬ ((1048576 : Int) < s.size) := by omega
  by_cases h2 : 1048576 < n
  · have g2 : (1048576 : Int) < n := by omega
    go_wp2_with fail
    go_ret
    exact ⟨.inl rfl, rfl⟩
  have g2 : ¬ ((1048576 : Int) < n) := by omega
  by_cases h3 : 1048576 < s.size + n
  · have g3 : (1048576 : Int) < s.size + n := by omega
    go_wp2_with fail
    go_ret
    exact ⟨.inl rfl, rfl⟩
  have g3 : ¬ ((1048576 : Int) < s.size + n) := by omega
  go_wp2_with fail
  go_ret
  exact ⟨.inr ⟨rfl, by omega, by omega⟩, rfl⟩
end Go.Proofs.Qxb6003346aDoor
