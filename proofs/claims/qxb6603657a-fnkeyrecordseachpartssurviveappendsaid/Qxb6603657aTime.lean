/-
  THE TIME LEAVES: zzFloorDivMod, zzEpochPlus, and of package time: nsec, sec, unixSec, Unix, Nanosecond, addSec, Add, at a Time that bears no monotonic reading. By an AI agent.
-/
import Derived.Test.Qxb6603657aProg
import Derived.WalkKit
import Derived.WalkSpells
import Derived.WalkLawsBesides
namespace Go.Proofs.Qxb6603657a
open Go.RowKit

/-! ### plain arithmetic -/
theorem ret2_int {k l : IntKind} {a b c d : Int} (h : a = b) (h' : c = d) : Ending.returned (.tuple #[.int k a, .int l c]) = .returned (.tuple #[.int k b, .int l d]) := by rw [h, h']
theorem ret_int {k : IntKind} {a b : Int} (h : a = b) : Ending.returned (.int k a) = .returned (.int k b) := by rw [h]
theorem ret_time {a b c d : Int} {p : Value} (h : a = b) (h' : c = d) : Ending.returned (.agg #[.int .u64 a, .int .i64 c, p]) = .returned (.agg #[.int .u64 b, .int .i64 d, p]) := by rw [h, h']
theorem wrap64_id {n : Int} (h1 : -9223372036854775808 ≤ n) (h2 : n ≤ 9223372036854775807) : wrap64 n = n := by unfold wrap64; omega
theorem wrap32_id {n : Int} (h1 : -2147483648 ≤ n) (h2 : n ≤ 2147483647) : wrap32 n = n := by unfold wrap32; omega
theorem tmod_b (x : Int) : x.tmod 1000000000 = if 0 ≤ x then x % 1000000000 else -((-x) % 1000000000) := by
  split
  · rw [Int.tmod_eq_emod_of_nonneg (by omega)]
  · rw [show x = -(-x) from by omega, Int.neg_tmod, Int.tmod_eq_emod_of_nonneg (by omega)]
    simp
theorem tdiv_b (x : Int) : x.tdiv 1000000000 = if 0 ≤ x then x / 1000000000 else -((-x) / 1000000000) := by
  split
  · rw [Int.tdiv_eq_ediv_of_nonneg (by omega)]
  · rw [show x = -(-x) from by omega, Int.neg_tdiv, Int.tdiv_eq_ediv_of_nonneg (by omega)]
    simp
theorem and_hi {x : Int} (h0 : 0 ≤ x) (h1 : x < 1000000000) : bits .and .u64 x 9223372036854775808 = 0 := by
  rw [u64_and x 9223372036854775808 h0 (by omega) (by omega) (by omega)]
  have : x.toNat &&& (9223372036854775808 : Int).toNat = 0 := by
    show x.toNat &&& 2 ^ 63 = 0
    rw [nat_bit 63, Nat.div_eq_of_lt (by omega)]
  rw [this]; rfl
theorem and_lo {x : Int} (h0 : 0 ≤ x) (h1 : x < 1000000000) : bits .and .u64 x 1073741823 = x := by
  rw [u64_and x 1073741823 h0 (by omega) (by omega) (by omega)]
  have : x.toNat &&& (1073741823 : Int).toNat = x.toNat := by
    show x.toNat &&& (2 ^ 30 - 1) = x.toNat
    rw [Nat.and_two_pow_sub_one_eq_mod, Nat.mod_eq_of_lt (by omega)]
  rw [this]; omega
theorem nat_and_compl (x : Nat) (h : x < 1073741824) : x &&& 18446744072635809792 = 0 := by
  apply Nat.eq_of_testBit_eq
  intro i
  rw [Nat.testBit_and, Nat.zero_testBit]
  by_cases hi : i < 30
  · have : (18446744072635809792 : Nat).testBit i = false := by
      have e : (18446744072635809792 : Nat) = 2 ^ 30 * 17179869183 := by decide
      rw [e, Nat.testBit_two_pow_mul]
      simp; omega
    rw [this, Bool.and_false]
  · have : x.testBit i = false := Nat.testBit_lt_two_pow (Nat.lt_of_lt_of_le h (by
      have : (1073741824 : Nat) = 2 ^ 30 := by decide
      rw [this]; exact Nat.pow_le_pow_right (by decide) (by omega)))
    rw [this, Bool.false_and]
theorem andNot_lo {x : Int} (h0 : 0 ≤ x) (h1 : x < 1000000000) : bits .andNot .u64 x 1073741823 = 0 := by
  rw [u64_andNot x 1073741823 h0 (by omega) (by omega) (by omega)]
  have : x.toNat &&& (18446744073709551615 - (1073741823 : Int).toNat) = 0 := nat_and_compl x.toNat (by omega)
  rw [this]; rfl
theorem or_zero {x : Int} (h0 : 0 ≤ x) (h1 : x < 1000000000) : bits .or .u64 0 x = x := by
  rw [u64_or 0 x (by omega) (by omega) h0 (by omega)]
  show ((0 ||| x.toNat : Nat) : Int) = x
  rw [Nat.zero_or]; omega

/-! ### the two of the laws' own -/
set_option maxHeartbeats 400000 in
theorem floor_any (x : Int) (h1 : -9223372036854775808 ≤ x) (h2 : x ≤ 9223372036854775807) (w : World) :
    Calls Try.prog 43 #[.int .i64 x] w fun e w' => e = .returned (.tuple #[.int .i64 (x / 1000000000), .int .i64 (x % 1000000000)]) ∧ w' = w := by
  have e1 := tmod_b x
  have e2 := tdiv_b x
  have H1 : Hid (x.tmod 1000000000 = if 0 ≤ x then x % 1000000000 else -((-x) % 1000000000)) := e1
  have H2 : Hid (x.tdiv 1000000000 = if 0 ≤ x then x / 1000000000 else -((-x) / 1000000000)) := e2
  clear e1 e2
  go_enter Try.func43, Try.ntmps43
  go_wp2
  · have hm : x.tmod 1000000000 < 0 := by assumption
    go_ret2
    have e1 := H1.out
    have e2 := H2.out
    refine ⟨ret2_int ?_ ?_, rfl⟩
    · rw [wrap64_id (by split at e2 <;> omega) (by split at e2 <;> omega)]; split at e1 <;> split at e2 <;> omega
    · rw [wrap64_id (by split at e1 <;> omega) (by split at e1 <;> omega)]; split at e1 <;> omega
  · have hm : 0 ≤ x.tmod 1000000000 := by assumption
    go_ret2
    have e1 := H1.out
    have e2 := H2.out
    refine ⟨ret2_int ?_ ?_, rfl⟩
    · split at e1 <;> split at e2 <;> omega
    · split at e1 <;> omega

set_option maxHeartbeats 400000 in
theorem epochPlus_any (a b : Int) (h1 : -9223372036854775808 ≤ a) (h2 : a ≤ 9223372036854775807) (h3 : -9223372036854775808 ≤ b) (h4 : b ≤ 9223372036854775807) (w : World) :
    Calls Try.prog 31 #[.int .i64 a, .int .i64 b] w fun e w' => e = .returned (.tuple #[.int .i64 ((a + b) / 1000000000), .int .i64 ((a + b) % 1000000000)]) ∧ w' = w := by
  go_enter Try.func31, Try.ntmps31
  go_wp2_with (first | (go_at_call 43; refine (floor_any _ (by assumption) (by assumption) _).mono ?_; rintro e w' ⟨rfl, rfl⟩))
  all_goals
    go_ret2
    refine ⟨ret2_int ?_ ?_, rfl⟩ <;> omega

/-! ### package time -/
set_option maxHeartbeats 400000 in
theorem nsec_any (b off : Nat) (ns : Int) (h0 : 0 ≤ ns) (h1 : ns < 1000000000) (w : World) (hc : w.cell? ⟨b, off, none⟩ = some (.int .u64 ns)) :
    Calls Try.prog 42 #[.pointer (some ⟨b, off, none⟩)] w fun e w' => e = .returned (.int .i32 ns) ∧ w' = w := by
  have e1 := and_lo h0 h1
  go_enter Try.func42, Try.ntmps42
  go_wp2
  go_ret
  exact ⟨rfl, rfl⟩
set_option maxHeartbeats 400000 in
theorem sec_any (b off : Nat) (ns s : Int) (h0 : 0 ≤ ns) (h1 : ns < 1000000000) (w : World) (hc : w.cell? ⟨b, off, none⟩ = some (.int .u64 ns)) (hc1 : w.cell? ⟨b, off + 1, none⟩ = some (.int .i64 s)) :
    Calls Try.prog 50 #[.pointer (some ⟨b, off, none⟩)] w fun e w' => e = .returned (.int .i64 s) ∧ w' = w := by
  have e1 := and_hi h0 h1
  go_enter Try.func50, Try.ntmps50
  go_wp2
  go_ret
  exact ⟨rfl, rfl⟩
set_option maxHeartbeats 400000 in
theorem unixSec_any (b off : Nat) (ns s : Int) (h0 : 0 ≤ ns) (h1 : ns < 1000000000) (s1 : -100000000000 ≤ s) (s2 : s ≤ 100000000000) (w : World) (hc : w.cell? ⟨b, off, none⟩ = some (.int .u64 ns)) (hc1 : w.cell? ⟨b, off + 1, none⟩ = some (.int .i64 s)) :
    Calls Try.prog 41 #[.pointer (some ⟨b, off, none⟩)] w fun e w' => e = .returned (.int .i64 (s - 62135596800)) ∧ w' = w := by
  go_enter Try.func41, Try.ntmps41
  go_wp2_with (go_at_call 50; refine (sec_any b off ns s h0 h1 _ hc hc1).mono ?_; rintro e w' ⟨rfl, rfl⟩)
  go_ret
  exact ⟨ret_int (by omega), rfl⟩
set_option maxHeartbeats 400000 in
theorem unix_any (ns s : Int) (h0 : 0 ≤ ns) (h1 : ns < 1000000000) (s1 : -100000000000 ≤ s) (s2 : s ≤ 100000000000) (w : World) :
    Calls Try.prog 29 #[.agg #[.int .u64 ns, .int .i64 s, .pointer none]] w fun e w' => e = .returned (.int .i64 (s - 62135596800)) ∧ w' = w.alloc (.cells #[.int .u64 ns, .int .i64 s, .pointer none] 60) := by
  go_enter Try.func29, Try.ntmps29
  go_wp2_with (go_at_call 41; refine (unixSec_any w.heap.size 0 ns s h0 h1 s1 s2 _ (by simp) (by simp)).mono ?_; rintro e w' ⟨rfl, rfl⟩)
  go_ret
  exact ⟨rfl, rfl⟩
set_option maxHeartbeats 400000 in
theorem nano_any (ns s : Int) (h0 : 0 ≤ ns) (h1 : ns < 1000000000) (w : World) :
    Calls Try.prog 30 #[.agg #[.int .u64 ns, .int .i64 s, .pointer none]] w fun e w' => e = .returned (.int .i64 ns) ∧ w' = w.alloc (.cells #[.int .u64 ns, .int .i64 s, .pointer none] 60) := by
  go_enter Try.func30, Try.ntmps30
  go_wp2_with (go_at_call 42; refine (nsec_any w.heap.size 0 ns h0 h1 _ (by simp)).mono ?_; rintro e w' ⟨rfl, rfl⟩)
  go_ret
  exact ⟨rfl, rfl⟩
set_option maxHeartbeats 400000 in
theorem addSec_any (b off : Nat) (ns s d : Int) (h0 : 0 ≤ ns) (h1 : ns < 1000000000) (s1 : -100000000000 ≤ s) (s2 : s ≤ 100000000000) (d1 : -100000000000 ≤ d) (d2 : d ≤ 100000000000)
    (w : World) (hc : w.cell? ⟨b, off, none⟩ = some (.int .u64 ns)) (hc1 : w.cell? ⟨b, off + 1, none⟩ = some (.int .i64 s)) (hf : w.frozen? ⟨b, off + 1, none⟩ = false) :
    Calls Try.prog 48 #[.pointer (some ⟨b, off, none⟩), .int .i64 d] w fun e w' => e = .returned (.tuple #[]) ∧ w' = w.setCell ⟨b, off + 1, none⟩ (.int .i64 (s + d)) := by
  have e1 := and_hi h0 h1
  by_cases hd : 0 < d
  · go_enter Try.func48, Try.ntmps48
    go_wp2
    go_end0
    exact ⟨rfl, rfl⟩
  · have hs : decide (s < s + d) = false := decide_eq_false (by omega)
    go_enter Try.func48, Try.ntmps48
    go_wp2
    go_end0
    exact ⟨rfl, rfl⟩
set_option maxHeartbeats 1000000 in
theorem add_any (ns s d : Int) (h0 : 0 ≤ ns) (h1 : ns < 1000000000) (s1 : -20000000000 ≤ s) (s2 : s ≤ 20000000000) (d1 : -9223372036854775808 ≤ d) (d2 : d ≤ 9223372036854775807) (w : World) :
    Calls Try.prog 37 #[.agg #[.int .u64 ns, .int .i64 s, .pointer none], .int .i64 d] w fun e w' =>
      e = .returned (.agg #[.int .u64 ((ns + d) % 1000000000), .int .i64 (s + (ns + d) / 1000000000), .pointer none]) ∧ Below w.heap.size w w' := by
  have e1 := tmod_b d
  have e2 := tdiv_b d
  have b1 : -1000000000 < d.tmod 1000000000 := by split at e1 <;> omega
  have b2 : d.tmod 1000000000 < 1000000000 := by split at e1 <;> omega
  have b3 : -10000000000 < d.tdiv 1000000000 := by split at e2 <;> omega
  have b4 : d.tdiv 1000000000 < 10000000000 := by split at e2 <;> omega
  have e3 : d = d.tdiv 1000000000 * 1000000000 + d.tmod 1000000000 := by split at e1 <;> split at e2 <;> omega
  clear e1 e2
  obtain ⟨q, hq⟩ : ∃ q, q = d.tdiv 1000000000 := ⟨_, rfl⟩
  obtain ⟨m, hm⟩ : ∃ m, m = d.tmod 1000000000 := ⟨_, rfl⟩
  rw [← hq] at b3 b4 e3
  rw [← hm] at b1 b2 e3
  have H3 : Hid (d = q * 1000000000 + m) := e3
  have gq : d.tdiv 1000000000 = q := hq.symm
  have gm : d.tmod 1000000000 = m := hm.symm
  clear e3 hq hm
  have a1 := and_hi h0 h1
  have a2 := andNot_lo h0 h1
  by_cases g1 : 1000000000 ≤ ns + m
  · have n1 : 0 ≤ ns + m - 1000000000 := by omega
    have n2 : ns + m - 1000000000 < 1000000000 := by omega
    have a3 := or_zero n1 n2
    have a4 := and_hi n1 n2
    go_enter Try.func37, Try.ntmps37
    go_wp2_with (first | (go_at_call 42; refine (nsec_any w.heap.size 0 ns h0 h1 _ (by simp)).mono ?_; rintro e w' ⟨rfl, rfl⟩) | (go_at_call 48; refine (addSec_any w.heap.size 0 (ns + m - 1000000000) s (q + 1) n1 n2 (by omega) (by omega) (by omega) (by omega) _ (by simp) (by simp) (by simp)).mono ?_; rintro e w' ⟨rfl, rfl⟩))
    refine bodyPost_ret (v := .agg #[.int .u64 (ns + m - 1000000000), .int .i64 (s + (q + 1)), .pointer none]) (by simp [results, Try.results37, go_sem]) rfl ⟨ret_time ?_ ?_, ((Below.refl _ _).alloc (Nat.le_refl _) _).alloc (by simp) _⟩
    · have := H3.out; omega
    · have := H3.out; omega
  by_cases g2 : ns + m < 0
  · have n1 : 0 ≤ ns + m + 1000000000 := by omega
    have n2 : ns + m + 1000000000 < 1000000000 := by omega
    have a3 := or_zero n1 n2
    have a4 := and_hi n1 n2
    go_enter Try.func37, Try.ntmps37
    go_wp2_with (first | (go_at_call 42; refine (nsec_any w.heap.size 0 ns h0 h1 _ (by simp)).mono ?_; rintro e w' ⟨rfl, rfl⟩) | (go_at_call 48; refine (addSec_any w.heap.size 0 (ns + m + 1000000000) s (q - 1) n1 n2 (by omega) (by omega) (by omega) (by omega) _ (by simp) (by simp) (by simp)).mono ?_; rintro e w' ⟨rfl, rfl⟩))
    refine bodyPost_ret (v := .agg #[.int .u64 (ns + m + 1000000000), .int .i64 (s + (q - 1)), .pointer none]) (by simp [results, Try.results37, go_sem]) rfl ⟨ret_time ?_ ?_, ((Below.refl _ _).alloc (Nat.le_refl _) _).alloc (by simp) _⟩
    · have := H3.out; omega
    · have := H3.out; omega
  · have n1 : 0 ≤ ns + m := by omega
    have n2 : ns + m < 1000000000 := by omega
    have a3 := or_zero n1 n2
    have a4 := and_hi n1 n2
    go_enter Try.func37, Try.ntmps37
    go_wp2_with (first | (go_at_call 42; refine (nsec_any w.heap.size 0 ns h0 h1 _ (by simp)).mono ?_; rintro e w' ⟨rfl, rfl⟩) | (go_at_call 48; refine (addSec_any w.heap.size 0 (ns + m) s (q) n1 n2 (by omega) (by omega) (by omega) (by omega) _ (by simp) (by simp) (by simp)).mono ?_; rintro e w' ⟨rfl, rfl⟩))
    refine bodyPost_ret (v := .agg #[.int .u64 (ns + m), .int .i64 (s + (q)), .pointer none]) (by simp [results, Try.results37, go_sem]) rfl ⟨ret_time ?_ ?_, ((Below.refl _ _).alloc (Nat.le_refl _) _).alloc (by simp) _⟩
    · have := H3.out; omega
    · have := H3.out; omega
end Go.Proofs.Qxb6603657a
