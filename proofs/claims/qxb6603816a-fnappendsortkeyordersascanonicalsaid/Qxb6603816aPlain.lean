/-
  THE PLAIN LAW: the sort keys order as the canonical order does; no Go in sight. By an AI agent.
-/
namespace Go.Proofs.Qxb6603816a

/-- A byte in lower case. -/
def low (c : Nat) : Nat := if 65 ≤ c ∧ c ≤ 90 then c + 32 else c
def enc1 (c : Nat) : List Nat := if c = 0 then [0, 1] else [low c]
/-- A label's key. -/
def encL (l : List Nat) : List Nat := l.flatMap enc1 ++ [0, 0]
/-- The key of a name: its labels, the rightmost first. -/
def keyR (rs : List (List Nat)) : List Nat := rs.flatMap encL

def cmpL : List Nat → List Nat → Int
  | [], [] => 0
  | [], _ :: _ => -1
  | _ :: _, [] => 1
  | a :: x, b :: y => if a < b then -1 else if b < a then 1 else cmpL x y
def cmpR : List (List Nat) → List (List Nat) → Int
  | [], [] => 0
  | [], _ :: _ => -1
  | _ :: _, [] => 1
  | a :: x, b :: y => if cmpL (a.map low) (b.map low) = 0 then cmpR x y else cmpL (a.map low) (b.map low)

theorem low_pos {c : Nat} (h : c ≠ 0) : 0 < low c := by unfold low; split <;> omega
theorem low_zero : low 0 = 0 := rfl
theorem encL_cons (a : Nat) (l : List Nat) : encL (a :: l) = enc1 a ++ encL l := by simp [encL]
theorem encL_nil : encL [] = [0, 0] := rfl

theorem cmp_enc (X Y : List Nat) : ∀ a b : List Nat, cmpL (encL a ++ X) (encL b ++ Y) = if cmpL (a.map low) (b.map low) = 0 then cmpL X Y else cmpL (a.map low) (b.map low)
  | [], [] => by simp [encL_nil, cmpL]
  | [], b :: y => by
    rw [encL_cons, encL_nil]
    by_cases h : b = 0
    · subst h; simp [enc1, cmpL]
    · have := low_pos h
      simp [enc1, h, cmpL, this]
  | a :: x, [] => by
    rw [encL_cons, encL_nil]
    by_cases h : a = 0
    · subst h; simp [enc1, cmpL]
    · have := low_pos h
      simp [enc1, h, cmpL, this]
  | a :: x, b :: y => by
    rw [encL_cons, encL_cons]
    have ih := cmp_enc X Y x y
    by_cases h : a = 0
    · by_cases g : b = 0
      · subst h; subst g; simp [enc1, cmpL, low_zero]; exact ih
      · have := low_pos g
        subst h
        simp [enc1, g, cmpL, this, low_zero]
    · by_cases g : b = 0
      · have := low_pos h
        subst g
        simp [enc1, h, cmpL, this, low_zero]
      · simp only [enc1, if_neg h, if_neg g, List.cons_append, List.nil_append, cmpL, List.map_cons]
        by_cases l1 : low a < low b
        · simp [l1]
        · by_cases l2 : low b < low a
          · simp [l1, l2]
          · simp only [if_neg l1, if_neg l2]; exact ih

theorem encL_ne (b : List Nat) : ∃ c t, encL b = c :: t := by
  cases b with
  | nil => exact ⟨0, [0], rfl⟩
  | cons c t =>
    rw [encL_cons]
    by_cases h : c = 0
    · exact ⟨0, 1 :: encL t, by simp [enc1, h]⟩
    · exact ⟨low c, encL t, by simp [enc1, h]⟩

/-- THE LAW. -/
theorem key_orders : ∀ rs qs : List (List Nat), cmpL (keyR rs) (keyR qs) = cmpR rs qs
  | [], [] => rfl
  | [], b :: y => by
    obtain ⟨c, t, h⟩ := encL_ne b
    simp [keyR, h, cmpL, cmpR]
  | a :: x, [] => by
    obtain ⟨c, t, h⟩ := encL_ne a
    simp [keyR, h, cmpL, cmpR]
  | a :: x, b :: y => by
    have ih := key_orders x y
    have e1 : keyR (a :: x) = encL a ++ keyR x := rfl
    have e2 : keyR (b :: y) = encL b ++ keyR y := rfl
    rw [e1, e2, cmp_enc, ih, cmpR]
end Go.Proofs.Qxb6603816a
