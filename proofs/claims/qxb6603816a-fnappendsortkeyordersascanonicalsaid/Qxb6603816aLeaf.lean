/-
  WHAT IS READ; the lower case; the three comparisons. By an AI agent.
-/
import Derived.Test.Qxb6603816aProg
import Derived.Test.Qxb6603816aPlain
import Derived.WalkKit
import Derived.WalkSpells
import Derived.WalkLawsBesides
import Derived.BigQuiet
import Derived.Deep.OwnRows
namespace Go.Proofs.Qxb6603816a
open Go.RowKit
set_option linter.unusedVariables false

/-- The slice's address 'ao' leads, where it has elements, to n cells that hold 'V i', all in a block below B. -/
def Rd (B : Nat) (w : World) (ao : Option Addr) (n : Nat) (V : Nat → Value) : Prop :=
  0 < n → ∃ b off, ao = some ⟨b, off, none⟩ ∧ b < B ∧ ∀ i, i < n → w.cell? ⟨b, off + i, none⟩ = some (V i)
theorem Rd.below {B B' : Nat} {w w' : World} {ao : Option Addr} {n : Nat} {V : Nat → Value} (h : Rd B w ao n V) (hb : Below B' w w') (hB : B ≤ B') : Rd B w' ao n V := by
  intro hn
  obtain ⟨b, off, e, hlt, hc⟩ := h hn
  exact ⟨b, off, e, hlt, fun i hi => (hb.cell (p := ⟨b, off + i, none⟩) (show b < B' by omega)).trans (hc i hi)⟩
theorem Rd.mono {B B' : Nat} {w : World} {ao : Option Addr} {n : Nat} {V : Nat → Value} (h : Rd B w ao n V) (hB : B ≤ B') : Rd B' w ao n V := by
  intro hn
  obtain ⟨b, off, e, hlt, hc⟩ := h hn
  exact ⟨b, off, e, by omega, hc⟩

/-- The bytes of a string, as numbers. -/
def bts (s : ByteArray) : List Nat := s.data.toList.map UInt8.toNat
theorem bts_length (s : ByteArray) : (bts s).length = s.size := by rw [bts, List.length_map, Array.length_toList]; rfl
theorem bts_get {s : ByteArray} {k : Nat} (h : k < s.size) : (bts s)[k]? = some s[k].toNat := by
  have : k < s.data.toList.length := by rw [Array.length_toList]; exact h
  rw [bts, List.getElem?_map, List.getElem?_eq_getElem this]
  rfl
theorem bts_drop {s : ByteArray} {k : Nat} (h : k < s.size) : (bts s).drop k = s[k].toNat :: (bts s).drop (k + 1) := by
  have hl : k < (bts s).length := by rw [bts_length]; exact h
  rw [List.drop_eq_getElem_cons hl]
  congr 1
  have := bts_get h
  rw [List.getElem?_eq_getElem hl] at this
  exact Option.some.inj this
theorem bts_drop_end {s : ByteArray} {k : Nat} (h : s.size ≤ k) : (bts s).drop k = [] := List.drop_eq_nil_of_le (by rw [bts_length]; exact h)

theorem ret_int {k : IntKind} {a b : Int} (h : a = b) : Ending.returned (.int k a) = .returned (.int k b) := by rw [h]
theorem low_cast (c : Nat) : ((low c : Nat) : Int) = if 65 ≤ c ∧ c ≤ 90 then (c : Int) + 32 else (c : Int) := by unfold low; split <;> rfl

set_option maxHeartbeats 400000 in
theorem lower_any (c : Nat) (hc : c < 256) (w : World) : Calls Try.prog 31 #[.int .u8 c] w fun e w' => e = .returned (.int .u8 (low c : Nat)) ∧ w' = w := by
  have HL := show Hid (((low c : Nat) : Int) = if 65 ≤ c ∧ c ≤ 90 then (c : Int) + 32 else (c : Int)) from low_cast c
  by_cases h1 : 65 ≤ c
  · by_cases h2 : c ≤ 90
    · have g1 : (65 : Int) ≤ c := by omega
      have g2 : (c : Int) ≤ 90 := by omega
      go_enter Try.func31, Try.ntmps31
      go_wp2
      go_ret
      refine ⟨ret_int ?_, rfl⟩
      rw [HL.out, if_pos ⟨h1, h2⟩]; omega
    · have g1 : (65 : Int) ≤ c := by omega
      have g2 : (90 : Int) < c := by omega
      go_enter Try.func31, Try.ntmps31
      go_wp2
      go_ret
      refine ⟨ret_int ?_, rfl⟩
      rw [HL.out, if_neg (by omega)]
  · have g1 : decide ((65 : Int) ≤ c) = false := decide_eq_false (by omega)
    go_enter Try.func31, Try.ntmps31
    go_wp2
    go_ret
    refine ⟨ret_int ?_, rfl⟩
    rw [HL.out, if_neg (by omega)]

set_option maxHeartbeats 400000 in
theorem lowerByte_any (c : Nat) (hc : c < 256) (w : World) : Calls Try.prog 21 #[.int .u8 c] w fun e w' => e = .returned (.int .u8 (low c : Nat)) ∧ w' = w := by
  have HL := show Hid (((low c : Nat) : Int) = if 65 ≤ c ∧ c ≤ 90 then (c : Int) + 32 else (c : Int)) from low_cast c
  by_cases h1 : 65 ≤ c
  · by_cases h2 : c ≤ 90
    · have g1 : (65 : Int) ≤ c := by omega
      have g2 : (c : Int) ≤ 90 := by omega
      go_enter Try.func21, Try.ntmps21
      go_wp2
      go_ret
      refine ⟨ret_int ?_, rfl⟩
      rw [HL.out, if_pos ⟨h1, h2⟩]
    · have g1 : (65 : Int) ≤ c := by omega
      have g2 : (90 : Int) < c := by omega
      go_enter Try.func21, Try.ntmps21
      go_wp2
      go_ret
      refine ⟨ret_int ?_, rfl⟩
      rw [HL.out, if_neg (by omega)]
  · have g1 : decide ((65 : Int) ≤ c) = false := decide_eq_false (by omega)
    go_enter Try.func21, Try.ntmps21
    go_wp2
    go_ret
    refine ⟨ret_int ?_, rfl⟩
    rw [HL.out, if_neg (by omega)]

set_option maxHeartbeats 400000 in
theorem bytes22_any (a b : ByteArray) (w : World) (ha : a.size ≤ 9223372036854775807) (hb : b.size ≤ 9223372036854775807) : Calls Try.prog 22 #[.string a, .string b] w fun e w' => (e = .returned (.bool false) ∨ e = .returned (.bool true)) ∧ w' = w := by
  go_enter Try.func22, Try.ntmps22
  go_wp2
  all_goals (go_ret; exact ⟨by simp, rfl⟩)

/-! ### the comparisons -/
theorem cmp_step {a b : Nat} {x y : List Nat} : cmpL (a :: x) (b :: y) = if a < b then -1 else if b < a then 1 else cmpL x y := rfl

set_option maxRecDepth 100000 in
set_option maxHeartbeats 1000000 in
theorem cmpFold_any (a b : ByteArray) (w : World) (ha : a.size ≤ 1048576) (hb : b.size ≤ 1048576) :
    Calls Try.prog 28 #[.string a, .string b] w fun e w' => e = .returned (.int .i64 (cmpL ((bts a).map low) ((bts b).map low))) ∧ w' = w := by
  go_enter Try.func28, Try.ntmps28
  go_wp2_with fail
  go_loop [5] (fun i => ∃ k : Nat, k ≤ a.size ∧ k ≤ b.size ∧ i = .int .i64 k ∧ Hid (cmpL ((bts a).map low) ((bts b).map low) = cmpL (((bts a).drop k).map low) (((bts b).drop k).map low))) (fun i => a.size - (intOf i).toNat)
  case atStart => exact ⟨0, Nat.zero_le _, Nat.zero_le _, rfl, rfl⟩
  case round =>
    obtain ⟨k, hka, hkb, rfl, HC⟩ := hrel
    by_cases h1 : k < a.size
    · by_cases h2 : k < b.size
      · have e1 := bts_drop h1
        have e2 := bts_drop h2
        have HC2 : Hid (cmpL ((bts a).map low) ((bts b).map low) = if low a[k].toNat < low b[k].toNat then -1 else if low b[k].toNat < low a[k].toNat then 1 else cmpL (((bts a).drop (k + 1)).map low) (((bts b).drop (k + 1)).map low)) := by
          have := HC.out
          rw [e1, e2] at this
          exact this
        clear e1 e2 HC
        have ba : a[k].toNat < 256 := a[k].toNat_lt
        have bb : b[k].toNat < 256 := b[k].toNat_lt
        obtain ⟨x, hx⟩ : ∃ x, x = low a[k].toNat := ⟨_, rfl⟩
        obtain ⟨y, hy⟩ : ∃ y, y = low b[k].toNat := ⟨_, rfl⟩
        rw [← hx, ← hy] at HC2
        have ca : ∀ w, Calls Try.prog 21 #[.int .u8 (a[k].toNat : Int)] w fun e w' => e = .returned (.int .u8 (x : Nat)) ∧ w' = w := fun w => by rw [hx]; exact lowerByte_any _ ba w
        have cb : ∀ w, Calls Try.prog 21 #[.int .u8 (b[k].toNat : Int)] w fun e w' => e = .returned (.int .u8 (y : Nat)) ∧ w' = w := fun w => by rw [hy]; exact lowerByte_any _ bb w
        have CA := show Hid _ from ca
        have CB := show Hid _ from cb
        clear ca cb hx hy
        by_cases l1 : x < y
        · have g1 : (x : Int) < y := by omega
          go_wp2_with fail
          refine (CA.out _).mono ?_
          rintro e w' ⟨rfl, rfl⟩
          go_wp2_with fail
          refine (CB.out _).mono ?_
          rintro e w' ⟨rfl, rfl⟩
          go_wp2_with fail
          go_ret
          refine ⟨ret_int ?_, rfl⟩
          rw [HC2.out, if_pos l1]
        by_cases l2 : y < x
        · have g1 : decide ((x : Int) < y) = false := decide_eq_false (by omega)
          have g2 : (y : Int) < x := by omega
          go_wp2_with fail
          refine (CA.out _).mono ?_
          rintro e w' ⟨rfl, rfl⟩
          go_wp2_with fail
          refine (CB.out _).mono ?_
          rintro e w' ⟨rfl, rfl⟩
          go_wp2_with fail
          go_ret
          refine ⟨ret_int ?_, rfl⟩
          rw [HC2.out, if_neg l1, if_pos l2]
        · have g1 : decide ((x : Int) < y) = false := decide_eq_false (by omega)
          have g2 : decide ((y : Int) < x) = false := decide_eq_false (by omega)
          go_wp2_with fail
          refine (CA.out _).mono ?_
          rintro e w' ⟨rfl, rfl⟩
          go_wp2_with fail
          refine (CB.out _).mono ?_
          rintro e w' ⟨rfl, rfl⟩
          go_wp2_with fail
          go_round
          case rel => exact ⟨k + 1, by omega, by omega, by go_num, by have := HC2.out; rw [if_neg l1, if_neg l2] at this; exact this⟩
          case measure => simp [intOf]; omega
      · have HC2 : Hid (cmpL ((bts a).map low) ((bts b).map low) = 1) := by
          have := HC.out
          rw [bts_drop h1, bts_drop_end (s := b) (by omega)] at this
          exact this
        have g1 : (k : Int) < a.size := by omega
        have g2 : decide ((k : Int) < b.size) = false := decide_eq_false (by omega)
        have g3 : (b.size : Int) < a.size := by omega
        go_wp2_with fail
        go_ret
        exact ⟨ret_int HC2.out.symm, rfl⟩
    · have g1 : decide ((k : Int) < a.size) = false := decide_eq_false (by omega)
      by_cases h2 : k < b.size
      · have HC2 : Hid (cmpL ((bts a).map low) ((bts b).map low) = -1) := by
          have := HC.out
          rw [bts_drop h2, bts_drop_end (s := a) (by omega)] at this
          exact this
        have g3 : (a.size : Int) < b.size := by omega
        go_wp2_with fail
        go_ret
        exact ⟨ret_int HC2.out.symm, rfl⟩
      · have HC2 : Hid (cmpL ((bts a).map low) ((bts b).map low) = 0) := by
          have := HC.out
          rw [bts_drop_end (s := b) (by omega), bts_drop_end (s := a) (by omega)] at this
          exact this
        have g3 : decide ((a.size : Int) < b.size) = false := decide_eq_false (by omega)
        have g4 : decide ((b.size : Int) < a.size) = false := decide_eq_false (by omega)
        go_wp2_with fail
        go_ret
        exact ⟨ret_int HC2.out.symm, rfl⟩

theorem drop_end (xs : List Nat) {k : Nat} (h : xs.length ≤ k) : xs.drop k = [] := List.drop_eq_nil_of_le h
theorem drew2 (w : World) (a b : Nat) : ∃ m, (w.drewN a).drewN b = w.drewN m := ⟨a + b, World.drewN_drewN _ _ _⟩
theorem drew3 (w : World) (a b c : Nat) : ∃ m, ((w.drewN a).drewN b).drewN c = w.drewN m := ⟨a + (b + c), by rw [World.drewN_drewN, World.drewN_drewN]⟩
theorem drop_get {xs : List Nat} {k : Nat} (h : k < xs.length) : xs.drop k = xs.getD k 0 :: xs.drop (k + 1) := by
  rw [List.drop_eq_getElem_cons h]
  simp [List.getD, h]

set_option maxRecDepth 100000 in
set_option maxHeartbeats 1000000 in
theorem cmpBytes_any (B : Nat) (a0 a1 : Option Addr) (c0 c1 : Nat) (xs ys : List Nat) (w : World) (hx : xs.length ≤ 1048576) (hy : ys.length ≤ 1048576) (h0 : Rd B w a0 xs.length fun i => .int .u8 (xs.getD i 0 : Nat)) (h1 : Rd B w a1 ys.length fun i => .int .u8 (ys.getD i 0 : Nat)) :
    Calls Try.prog 23 #[.slice a0 xs.length c0, .slice a1 ys.length c1] w fun e w' => e = .returned (.int .i64 (cmpL xs ys)) ∧ ∃ m, w' = w.drewN m := by
  obtain ⟨n0, e0⟩ : ∃ n, n = xs.length := ⟨_, rfl⟩
  obtain ⟨n1, e1⟩ : ∃ n, n = ys.length := ⟨_, rfl⟩
  rw [← e0] at h0 hx ⊢
  rw [← e1] at h1 hy ⊢
  have E0 : Hid (n0 = xs.length) := e0
  have E1 : Hid (n1 = ys.length) := e1
  clear e0 e1
  go_enter Try.func23, Try.ntmps23
  go_wp2_with fail
  go_loopw [5] (fun i wr => ∃ k m : Nat, k ≤ n0 ∧ k ≤ n1 ∧ i = .int .i64 k ∧ Hid (cmpL xs ys = cmpL (xs.drop k) (ys.drop k)) ∧ wr = w.drewN m) (fun i _ => n0 - (intOf i).toNat)
  case atStart => exact ⟨0, 0, Nat.zero_le _, Nat.zero_le _, rfl, rfl, rfl⟩
  case round =>
    obtain ⟨k, m, hka, hkb, rfl, HC, rfl⟩ := hrel
    by_cases l0 : k < n0
    · by_cases l1 : k < n1
      · have HC2 : Hid (cmpL xs ys = if xs.getD k 0 < ys.getD k 0 then -1 else if ys.getD k 0 < xs.getD k 0 then 1 else cmpL (xs.drop (k + 1)) (ys.drop (k + 1))) := by
          have := HC.out
          rw [drop_get (xs := xs) (by have := E0.out; omega), drop_get (xs := ys) (by have := E1.out; omega)] at this
          exact this
        obtain ⟨b0, o0, rfl, _, q0⟩ := h0 (by omega)
        obtain ⟨b1, o1, rfl, _, q1⟩ := h1 (by omega)
        have p0 : w.cell? ⟨b0, o0 + k, none⟩ = some (.int .u8 (xs.getD k 0 : Nat)) := q0 k l0
        have p1 : w.cell? ⟨b1, o1 + k, none⟩ = some (.int .u8 (ys.getD k 0 : Nat)) := q1 k l1
        clear q0 q1 HC
        obtain ⟨x, hx'⟩ : ∃ x, x = xs.getD k 0 := ⟨_, rfl⟩
        obtain ⟨y, hy'⟩ : ∃ y, y = ys.getD k 0 := ⟨_, rfl⟩
        rw [← hx'] at p0 HC2
        rw [← hy'] at p1 HC2
        clear hx' hy'
        have bk0 : (k : Int) < n0 := by omega
        have bk1 : (k : Int) < n1 := by omega
        by_cases t1 : x < y
        · have g1 : (x : Int) < y := by omega
          go_wp2_with fail
          go_quiet (fail)
          go_wp2_with fail
          go_ret
          exact ⟨ret_int (by rw [HC2.out, if_pos t1]), drew2 _ _ _⟩
        have g1 : decide ((x : Int) < y) = false := decide_eq_false (by omega)
        by_cases t2 : y < x
        · have g2 : (y : Int) < x := by omega
          go_wp2_with fail
          go_quiet (fail)
          go_wp2_with fail
          go_quiet (fail)
          go_wp2_with fail
          go_ret
          exact ⟨ret_int (by rw [HC2.out, if_neg t1, if_pos t2]), drew3 _ _ _ _⟩
        · have g2 : decide ((y : Int) < x) = false := decide_eq_false (by omega)
          go_wp2_with fail
          go_quiet (fail)
          go_wp2_with fail
          go_quiet (fail)
          go_wp2_with fail
          go_roundw
          case rel => exact ⟨k + 1, _, by omega, by omega, by go_num, by have := HC2.out; rw [if_neg t1, if_neg t2] at this; exact this, rfl⟩
          case measure => simp [intOf]; omega
      · have HC2 : Hid (cmpL xs ys = 1) := by
          have := HC.out
          rw [drop_get (xs := xs) (by have := E0.out; omega), drop_end ys (by have := E1.out; omega)] at this
          exact this
        have g1 : (k : Int) < n0 := by omega
        have g2 : decide ((k : Int) < n1) = false := decide_eq_false (by omega)
        have g3 : (n1 : Int) < n0 := by omega
        go_wp2_with fail
        go_ret
        exact ⟨ret_int HC2.out.symm, _, rfl⟩
    · have g1 : decide ((k : Int) < n0) = false := decide_eq_false (by omega)
      by_cases l1 : k < n1
      · have HC2 : Hid (cmpL xs ys = -1) := by
          have := HC.out
          rw [drop_get (xs := ys) (by have := E1.out; omega), drop_end xs (by have := E0.out; omega)] at this
          exact this
        have g3 : (n0 : Int) < n1 := by omega
        go_wp2_with fail
        go_ret
        exact ⟨ret_int HC2.out.symm, _, rfl⟩
      · have HC2 : Hid (cmpL xs ys = 0) := by
          have := HC.out
          rw [drop_end ys (by have := E1.out; omega), drop_end xs (by have := E0.out; omega)] at this
          exact this
        have g3 : decide ((n0 : Int) < n1) = false := decide_eq_false (by omega)
        have g4 : decide ((n1 : Int) < n0) = false := decide_eq_false (by omega)
        go_wp2_with fail
        go_ret
        exact ⟨ret_int HC2.out.symm, _, rfl⟩

theorem quiet_same2 {P : Program} {f : FuncId} {args : Array Value} {w : World} {q x : Nat} {v : Value} (h : Calls P f args (w.drewN (q + x)) fun e w' => e = .returned v ∧ w' = w.drewN (q + x)) :
    Calls P f args (w.drewN (q + x)) fun e w'' => e = .returned v ∧ ∃ m, w'' = w.drewN (q + m) :=
  h.mono fun _ _ ⟨he, hm⟩ => ⟨he, x, hm⟩

/-- The labels of a slice of strings, the last one first. -/
def revL (A : Nat → ByteArray) (n : Nat) : List (List Nat) := (List.range n).map fun k => bts (A (n - 1 - k))
theorem revL_length (A : Nat → ByteArray) (n : Nat) : (revL A n).length = n := by simp [revL]
theorem revL_drop (A : Nat → ByteArray) {n k : Nat} (h : k < n) : (revL A n).drop k = bts (A (n - 1 - k)) :: (revL A n).drop (k + 1) := by
  rw [List.drop_eq_getElem_cons (by rw [revL_length]; exact h)]
  congr 1
  simp [revL]
theorem revL_end (A : Nat → ByteArray) {n k : Nat} (h : n ≤ k) : (revL A n).drop k = [] := List.drop_eq_nil_of_le (by rw [revL_length]; exact h)

set_option maxRecDepth 100000 in
set_option maxHeartbeats 1000000 in
theorem canon_any (B : Nat) (a0 a1 : Option Addr) (n0 n1 c0 c1 : Nat) (A D : Nat → ByteArray) (w : World) (hn0 : n0 ≤ 1048576) (hn1 : n1 ≤ 1048576) (sA : ∀ i, i < n0 → (A i).size ≤ 1048576) (sD : ∀ i, i < n1 → (D i).size ≤ 1048576)
    (h0 : Rd B w a0 n0 fun i => .string (A i)) (h1 : Rd B w a1 n1 fun i => .string (D i)) :
    Calls Try.prog 24 #[.slice a0 n0 c0, .slice a1 n1 c1] w fun e w' => e = .returned (.int .i64 (cmpR (revL A n0) (revL D n1))) ∧ ∃ m, w' = w.drewN m := by
  go_enter Try.func24, Try.ntmps24
  go_wp2_with fail
  go_loopw [5] (fun i wr => ∃ k m : Nat, k ≤ n0 ∧ k ≤ n1 ∧ i = .int .i64 k ∧ Hid (cmpR (revL A n0) (revL D n1) = cmpR ((revL A n0).drop k) ((revL D n1).drop k)) ∧ wr = w.drewN m) (fun i _ => n0 - (intOf i).toNat)
  case atStart => exact ⟨0, 0, Nat.zero_le _, Nat.zero_le _, rfl, rfl, rfl⟩
  case round =>
    obtain ⟨k, m, hka, hkb, rfl, HC, rfl⟩ := hrel
    by_cases l0 : k < n0
    · by_cases l1 : k < n1
      · have HC2 : Hid (cmpR (revL A n0) (revL D n1) = if cmpL ((bts (A (n0 - 1 - k))).map low) ((bts (D (n1 - 1 - k))).map low) = 0 then cmpR ((revL A n0).drop (k + 1)) ((revL D n1).drop (k + 1)) else cmpL ((bts (A (n0 - 1 - k))).map low) ((bts (D (n1 - 1 - k))).map low)) := by
          have := HC.out
          rw [revL_drop A l0, revL_drop D l1] at this
          exact this
        obtain ⟨b0, o0, rfl, _, q0⟩ := h0 (by omega)
        obtain ⟨b1, o1, rfl, _, q1⟩ := h1 (by omega)
        obtain ⟨p, hp⟩ : ∃ p, p = n0 - 1 - k := ⟨_, rfl⟩
        obtain ⟨q, hq⟩ : ∃ q, q = n1 - 1 - k := ⟨_, rfl⟩
        rw [← hp, ← hq] at HC2
        have p0 : w.cell? ⟨b0, o0 + p, none⟩ = some (.string (A p)) := q0 p (by omega)
        have p1 : w.cell? ⟨b1, o1 + q, none⟩ = some (.string (D q)) := q1 q (by omega)
        have zA := sA p (by omega)
        have zD := sD q (by omega)
        have ep : IntKind.i64.wrap ((n0 : Int) - 1 - k) = p := by rw [IntKind.wrap_i64]; omega
        have eq : IntKind.i64.wrap ((n1 : Int) - 1 - k) = q := by rw [IntKind.wrap_i64]; omega
        have ep1 : IntKind.i64.wrap ((n0 : Int) - 1) = n0 - 1 := by rw [IntKind.wrap_i64]; omega
        have eq1 : IntKind.i64.wrap ((n1 : Int) - 1) = n1 - 1 := by rw [IntKind.wrap_i64]; omega
        have ep2 : (n0 : Int) - 1 - k = p := by omega
        have eq2 : (n1 : Int) - 1 - k = q := by omega
        have bp : (p : Int) < n0 := by omega
        have bq : (q : Int) < n1 := by omega
        have g0 : ((k : Int) == n0) = false := by simp; omega
        have g1 : ((k : Int) == n1) = false := by simp; omega
        obtain ⟨c, hc⟩ : ∃ c, c = cmpL ((bts (A p)).map low) ((bts (D q)).map low) := ⟨_, rfl⟩
        rw [← hc] at HC2
        have CC : Hid (∀ w, Calls Try.prog 28 #[.string (A p), .string (D q)] w fun e w' => e = .returned (.int .i64 c) ∧ w' = w) := fun w => by rw [hc]; exact cmpFold_any _ _ w zA zD
        clear q0 q1 HC sA sD hp hq hc
        by_cases hc0 : c = 0
        · subst hc0
          go_wp2_with fail
          go_quiet ((go_at_call 28; exact quiet_same2 (CC.out _)))
          go_wp2_with fail
          go_roundw
          case rel => exact ⟨k + 1, _, by omega, by omega, by go_num, HC2.out.trans (if_pos trivial), rfl⟩
          case measure => simp [intOf]; omega
        · have g2 : (c != 0) = true := by simp [hc0]
          go_wp2_with fail
          go_quiet ((go_at_call 28; exact quiet_same2 (CC.out _)))
          go_wp2_with fail
          go_ret
          exact ⟨ret_int (by rw [HC2.out, if_neg hc0]), _, rfl⟩
      · have HC2 : Hid (cmpR (revL A n0) (revL D n1) = 1) := by
          have := HC.out
          rw [revL_drop A l0, revL_end D (by omega)] at this
          exact this
        have g0 : ((k : Int) == n0) = false := by simp; omega
        have g1 : ((k : Int) == n1) = true := by simp; omega
        go_wp2_with fail
        go_ret
        exact ⟨ret_int HC2.out.symm, _, rfl⟩
    · have g0 : ((k : Int) == n0) = true := by simp; omega
      by_cases l1 : k < n1
      · have HC2 : Hid (cmpR (revL A n0) (revL D n1) = -1) := by
          have := HC.out
          rw [revL_drop D l1, revL_end A (by omega)] at this
          exact this
        have g1 : ((k : Int) == n1) = false := by simp; omega
        go_wp2_with fail
        go_ret
        exact ⟨ret_int HC2.out.symm, _, rfl⟩
      · have HC2 : Hid (cmpR (revL A n0) (revL D n1) = 0) := by
          have := HC.out
          rw [revL_end D (by omega), revL_end A (by omega)] at this
          exact this
        have g1 : ((k : Int) == n1) = true := by simp; omega
        go_wp2_with fail
        go_ret
        exact ⟨ret_int HC2.out.symm, _, rfl⟩
end Go.Proofs.Qxb6603816a
