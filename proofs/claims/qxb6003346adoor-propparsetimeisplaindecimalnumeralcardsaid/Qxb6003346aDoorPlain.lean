/-
  THE PLAIN LAW: decimal numerals; no Go in sight. By an AI agent.
-/
import Derived.Lib.ItoaNum
namespace Go.Proofs.Qxb6003346aDoor
open Go.Lib

/-- The number that the first k digits spell. -/
def valN (V : Nat → Nat) : Nat → Nat
  | 0 => 0
  | k + 1 => 10 * valN V k + (V k - 48)
def Dig (V : Nat → Nat) (n : Nat) : Prop := ∀ i, i < n → 48 ≤ V i ∧ V i ≤ 57
/-- A plain numeral of a number from 1 to 2^64 - 1. -/
def Good (V : Nat → Nat) (n : Nat) : Prop := 0 < n ∧ n ≤ 20 ∧ Dig V n ∧ V 0 ≠ 48 ∧ valN V n < 18446744073709551616

theorem Dig.mono {V : Nat → Nat} {n k : Nat} (h : Dig V n) (hk : k ≤ n) : Dig V k := fun i hi => h i (by omega)
theorem Dig.succ {V : Nat → Nat} {k : Nat} (h : Dig V k) (h1 : 48 ≤ V k) (h2 : V k ≤ 57) : Dig V (k + 1) := fun i hi => by
  by_cases e : i = k
  · rw [e]; exact ⟨h1, h2⟩
  · exact h i (by omega)
theorem valN_lt {V : Nat → Nat} : ∀ {k : Nat}, Dig V k → valN V k < 10 ^ k
  | 0, _ => by simp [valN]
  | k + 1, h => by
    have := valN_lt (h.mono (Nat.le_succ k))
    have := h k (by omega)
    simp only [valN, Nat.pow_succ]
    omega
theorem valN_mono {V : Nat → Nat} {k : Nat} : ∀ {n : Nat}, k ≤ n → valN V k ≤ valN V n
  | 0, h => by have : k = 0 := by omega
               subst this; exact Nat.le_refl _
  | n + 1, h => by
    by_cases e : k = n + 1
    · subst e; exact Nat.le_refl _
    · have := valN_mono (V := V) (show k ≤ n by omega)
      simp only [valN]
      omega
theorem valN_small {V : Nat → Nat} {k : Nat} (h : Dig V k) (hk : k ≤ 19) : valN V k < 18446744073709551616 := by
  have h1 := valN_lt h
  have h2 : 10 ^ k ≤ 10 ^ 19 := Nat.pow_le_pow_right (by decide) hk
  have h3 : (10 : Nat) ^ 19 < 18446744073709551616 := by decide
  omega
theorem valN_eq {V M : Nat → Nat} : ∀ {k : Nat}, (∀ j, j < k → V j = M j) → valN V k = valN M k
  | 0, _ => rfl
  | k + 1, h => by
    have ih := valN_eq (k := k) (fun j hj => h j (Nat.lt_succ_of_lt hj))
    simp only [valN, ih, h k (Nat.lt_succ_self k)]
theorem lex_step {V M : Nat → Nat} {k : Nat} (h : ∀ j, j < k → V j = M j) (hV : 48 ≤ M k) (hgt : M k < V k) : valN M (k + 1) < valN V (k + 1) := by
  have := valN_eq h
  simp only [valN]
  omega
theorem lex_up {V M : Nat → Nat} {k n : Nat} (hM : Dig M n) (h : valN M k < valN V k) : ∀ {m : Nat}, k ≤ m → m ≤ n → valN M m < valN V m
  | 0, h1, h2 => by have : k = 0 := by omega
                    subst this; exact h
  | m + 1, h1, h2 => by
    by_cases e : k = m + 1
    · subst e; exact h
    · have := lex_up hM h (show k ≤ m by omega) (by omega)
      have := hM m (by omega)
      simp only [valN]
      omega
theorem lex_gt {V M : Nat → Nat} {k n : Nat} (h : ∀ j, j < k → V j = M j) (hk : k < n) (hM : Dig M n) (hgt : M k < V k) : valN M n < valN V n :=
  lex_up hM (lex_step h (hM k hk).1 hgt) (Nat.succ_le_of_lt hk) (Nat.le_refl _)

/-- The numeral of the number is the text. -/
theorem dec_val {V : Nat → Nat} : ∀ {n : Nat}, Dig V (n + 1) → V 0 ≠ 48 → decDigits (valN V (n + 1)) = (List.range (n + 1)).map fun i => UInt8.ofNat (V i)
  | 0, h, h0 => by
    have := h 0 (by omega)
    have e : valN V 1 = V 0 - 48 := by simp [valN]
    rw [e, decDigits, dif_pos (by omega), show 48 + (V 0 - 48) = V 0 by omega]
    simp
  | n + 1, h, h0 => by
    have ih := dec_val (h.mono (Nat.le_succ _)) h0
    have hd := h (n + 1) (by omega)
    have hpos : 1 ≤ valN V (n + 1) := by
      have h1 : valN V 1 ≤ valN V (n + 1) := valN_mono (by omega)
      have h2 := h 0 (by omega)
      have h3 : valN V 1 = V 0 - 48 := by simp [valN]
      omega
    have e : valN V (n + 1 + 1) = 10 * valN V (n + 1) + (V (n + 1) - 48) := rfl
    rw [decDigits, dif_neg (by omega), show valN V (n + 1 + 1) / 10 = valN V (n + 1) by omega, show 48 + valN V (n + 1 + 1) % 10 = V (n + 1) by omega, ih]
    rw [List.range_succ (n := n + 1), List.map_append]
    rfl
end Go.Proofs.Qxb6003346aDoor
