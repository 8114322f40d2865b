/-
  slices.Contains at []string; isNamedBy. By an AI agent.
-/
import Derived.Test.Qxb6604496aLeaf
namespace Go.Proofs.Qxb6604496a
open Go.RowKit
set_option linter.unusedVariables false

/-- x lies among the first n strings. -/
def Among (x : ByteArray) (n : Nat) (V : Nat → ByteArray) : Prop := ∃ i, i < n ∧ (x.toList == (V i).toList) = true

set_option maxHeartbeats 1000000 in
theorem index_any (B : Nat) (ao : Option Addr) (n c : Nat) (V : Nat → ByteArray) (x : ByteArray) (w : World) (hn : n ≤ 65537) (hc : Rd B w ao n fun i => .string (V i)) :
    Calls Try.prog 21 #[.slice ao n c, .string x] w fun e w' => (∃ z : Int, e = .returned (.int .i64 z) ∧ (0 ≤ z ↔ Among x n V)) ∧ w' = w := by
  go_enter Try.func21, Try.ntmps21
  go_wp2_with fail
  go_loop [8, 5] (fun i _ => ∃ k : Nat, k ≤ n ∧ i = .int .i64 k ∧ Hid (∀ j, j < k → (x.toList == (V j).toList) = false)) (fun i _ => n - (intOf i).toNat)
  case atStart => exact ⟨0, Nat.zero_le _, rfl, fun j hj => absurd hj (by omega)⟩
  case round =>
    obtain ⟨k, hk, rfl, HN⟩ := hrel
    by_cases hlt : k < n
    · obtain ⟨b, off, rfl, _, hcc⟩ := hc (by omega)
      have hck : w.cell? ⟨b, off + k, none⟩ = some (.string (V k)) := hcc k hlt
      clear hcc hc
      have g2 : (k : Int) < n := by omega
      cases he : (x.toList == (V k).toList) with
      | true =>
        have Y : Hid (Among x n V) := ⟨k, hlt, he⟩
        go_wp2_with fail
        go_ret
        exact ⟨⟨k, rfl, fun _ => Y.out, fun _ => by omega⟩, rfl⟩
      | false =>
        have HN' : Hid (∀ j, j < k + 1 → (x.toList == (V j).toList) = false) := fun j hj => by
          by_cases e : j = k
          · rw [e]; exact he
          · exact HN.out j (by omega)
        go_wp2_with fail
        go_round
        case rel => exact ⟨k + 1, by omega, by go_num, HN'⟩
        case measure => simp [intOf]; omega
    · have g2 : ¬ ((k : Int) < n) := by omega
      clear hc
      go_wp2_with fail
      go_ret
      exact ⟨⟨-1, rfl, fun h => absurd h (by decide), fun ⟨i, hi, e⟩ => by rw [HN.out i (by omega)] at e; exact absurd e (by decide)⟩, rfl⟩

set_option maxHeartbeats 400000 in
theorem contains_any (B : Nat) (ao : Option Addr) (n c : Nat) (V : Nat → ByteArray) (x : ByteArray) (w : World) (hn : n ≤ 65537) (hc : Rd B w ao n fun i => .string (V i)) :
    Calls Try.prog 20 #[.slice ao n c, .string x] w fun e w' => (∃ t : Bool, e = .returned (.bool t) ∧ (t = true ↔ Among x n V)) ∧ w' = w := by
  go_enter Try.func20, Try.ntmps20
  go_wp2_with fail
  refine (index_any B ao n c V x _ hn hc).mono ?_
  rintro e w' ⟨⟨z, rfl, hz⟩, hw⟩
  obtain rfl := hw.symm
  have HZ : Hid (0 ≤ z ↔ Among x n V) := hz
  clear hz
  go_wp2_with fail
  go_ret
  exact ⟨⟨_, rfl, decide_eq_true_iff.trans HZ.out⟩, rfl⟩

/-- What isNamedBy answers; t: the name is one of the groups. -/
def named (u : ByteArray) (o an : Bool) (cls : Int) (m : ByteArray) (t : Bool) : Bool :=
  if cls = 1 then true else if an = true then false else if cls = 2 then !(u.toList == [])
  else if cls = 4 then o else if cls = 5 then m.toList == u.toList else if cls = 3 then t else if cls = 6 then t else false

set_option maxRecDepth 100000 in
set_option maxHeartbeats 1000000 in
theorem named_any (B : Nat) (u m : ByteArray) (ao : Option Addr) (n c : Nat) (V : Nat → ByteArray) (o an : Bool) (cls : Int) (w : World) (hn : n ≤ 65537) (hB : B ≤ w.heap.size) (hc : Rd B w ao n fun i => .string (V i)) :
    Calls Try.prog 19 #[.agg #[.string u, .slice ao n c, .bool o, .bool an], .agg #[.int .i64 cls, .string m]] w fun e w' => (∃ t : Bool, e = .returned (.bool (named u o an cls m t)) ∧ (t = true ↔ Among m n V)) ∧ Below w.heap.size w w' := by
  obtain ⟨t, HT⟩ : ∃ t : Bool, Hid (t = true ↔ Among m n V) := by
    by_cases h : Among m n V
    · exact ⟨true, ⟨fun _ => h, fun _ => rfl⟩⟩
    · exact ⟨false, ⟨fun e => absurd e (by decide), fun e => absurd e h⟩⟩
  have hcall : ∀ W, Below B w W → Calls Try.prog 20 #[.slice ao n c, .string m] W fun e w' => e = .returned (.bool t) ∧ w' = W := fun W hb => by
    refine (contains_any B ao n c V m W hn (hc.below hb (Nat.le_refl _))).mono ?_
    rintro e w' ⟨⟨t', rfl, ht'⟩, rfl⟩
    have : t' = t := by
      have := ht'.trans HT.out.symm
      cases t <;> cases t' <;> simp_all
    rw [this]
    exact ⟨rfl, rfl⟩
  have HC := show Hid _ from hcall
  clear hcall hc
  have hBel : ∀ o1 o2, Below w.heap.size w ((w.alloc o1).alloc o2) := fun o1 o2 => ((Below.refl _ _).alloc (Nat.le_refl _) _).alloc (by simp) _
  go_enter Try.func19, Try.ntmps19
  by_cases c1 : cls = 1
  · subst c1
    go_wp2_with fail
    go_ret
    exact ⟨⟨t, by simp [named], HT.out⟩, hBel _ _⟩
  have b1 : (cls == 1) = false := beq_eq_false_iff_ne.2 c1
  cases an with
  | true =>
    go_wp2_with fail
    go_ret
    exact ⟨⟨t, by simp [named, c1], HT.out⟩, hBel _ _⟩
  | false =>
    by_cases c2 : cls = 2
    · subst c2
      go_wp2_with fail
      go_ret
      exact ⟨⟨t, by simp [named], HT.out⟩, hBel _ _⟩
    have b2 : (cls == 2) = false := beq_eq_false_iff_ne.2 c2
    by_cases c4 : cls = 4
    · subst c4
      go_wp2_with fail
      go_ret
      exact ⟨⟨t, by simp [named], HT.out⟩, hBel _ _⟩
    have b4 : (cls == 4) = false := beq_eq_false_iff_ne.2 c4
    by_cases c5 : cls = 5
    · subst c5
      go_wp2_with fail
      go_ret
      exact ⟨⟨t, by simp [named], HT.out⟩, hBel _ _⟩
    have b5 : (cls == 5) = false := beq_eq_false_iff_ne.2 c5
    by_cases c3 : cls = 3
    · subst c3
      go_wp2_with fail
      refine (HC.out _ ((hBel _ _).mono hB)).mono ?_
      rintro e w' ⟨rfl, hw⟩
      obtain rfl := hw.symm
      go_wp2_with fail
      go_ret
      exact ⟨⟨t, by simp [named], HT.out⟩, hBel _ _⟩
    have b3 : (cls == 3) = false := beq_eq_false_iff_ne.2 c3
    by_cases c6 : cls = 6
    · subst c6
      go_wp2_with fail
      refine (HC.out _ ((hBel _ _).mono hB)).mono ?_
      rintro e w' ⟨rfl, hw⟩
      obtain rfl := hw.symm
      go_wp2_with fail
      go_ret
      exact ⟨⟨t, by simp [named], HT.out⟩, hBel _ _⟩
    have b6 : (cls == 6) = false := beq_eq_false_iff_ne.2 c6
    go_wp2_with fail
    go_ret
    exact ⟨⟨t, by simp [named, c1, c2, c3, c4, c5, c6], HT.out⟩, hBel _ _⟩

set_option maxHeartbeats 400000 in
theorem zznamed_any (B : Nat) (u m : ByteArray) (ao : Option Addr) (n c : Nat) (V : Nat → ByteArray) (o an : Bool) (cls : Int) (w : World) (hn : n ≤ 65537) (hB : B ≤ w.heap.size) (hc : Rd B w ao n fun i => .string (V i)) :
    Calls Try.prog 16 #[.agg #[.string u, .slice ao n c, .bool o, .bool an], .int .i64 cls, .string m] w fun e w' => (∃ t : Bool, e = .returned (.bool (named u o an cls m t)) ∧ (t = true ↔ Among m n V)) ∧ Below w.heap.size w w' := by
  go_enter Try.func16, Try.ntmps16
  go_wp2_with fail
  refine (named_any B u m ao n c V o an cls _ hn (by simp; omega) (hc.below ((Below.refl _ _).alloc hB _) (Nat.le_refl _))).mono ?_
  rintro e w' ⟨⟨t, rfl, ht⟩, hb⟩
  have HT : Hid (t = true ↔ Among m n V) := ht
  have hB' : Below w.heap.size w w' := ((Below.refl _ _).alloc (Nat.le_refl _) _).trans (hb.mono (by simp))
  clear ht hb hc
  go_wp2_with fail
  go_ret
  exact ⟨⟨t, rfl, HT.out⟩, hB'⟩
end Go.Proofs.Qxb6604496a
