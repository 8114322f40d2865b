/-
  WHAT each HANDS OUT: the relation of its loop; no walk here. By an AI agent.
-/
import Derived.Test.Qxb6603657aParts
import Derived.Test.Qxb6603657aClos
namespace Go.Proofs.Qxb6603657a
open Go.RowKit
set_option linter.unusedVariables false

/-- The records below k that are not dropped, in order. -/
def live (D : Nat → Bool) : Nat → List Nat
  | 0 => []
  | k + 1 => live D k ++ (if D k then [] else [k])
theorem live_mem (D : Nat → Bool) {k i : Nat} (h : i ∈ live D k) : i < k ∧ D i = false := by
  induction k with
  | zero => simp [live] at h
  | succ k ih =>
    rw [live, List.mem_append] at h
    rcases h with h | h
    · have := ih h; exact ⟨by omega, this.2⟩
    · cases hd : D k
      · rw [hd] at h; simp at h; subst h; exact ⟨by omega, hd⟩
      · rw [hd] at h; simp at h
theorem live_length (D : Nat → Bool) (k : Nat) : (live D k).length ≤ k := by
  induction k with
  | zero => simp [live]
  | succ k ih => rw [live]; cases D k <;> simp <;> omega
theorem live_no {D : Nat → Bool} {k : Nat} (h : D k = true) : live D (k + 1) = live D k := by simp [live, h]
theorem live_yes {D : Nat → Bool} {k : Nat} (h : D k = false) : live D (k + 1) = live D k ++ [k] := by simp [live, h]

/-- The five lists behind k rounds. -/
def outK (K : Nat → ByteArray) (D : Nat → Bool) (k : Nat) : List Value := (live D k).map fun i => .string (K i)
def outP (R : Nat → ByteArray) (F : Nat → Option Addr) (D : Nat → Bool) (k : Nat) : List Value := (live D k).map fun i => .slice (F i) (R i).size (R i).size
def outS (T : Nat → Int) (ep : Int) (D : Nat → Bool) (k : Nat) : List Value := (live D k).map fun i => .int .i64 ((ep + T i) / 1000000000)
def outN (T : Nat → Int) (ep : Int) (D : Nat → Bool) (k : Nat) : List Value := (live D k).map fun i => .int .i64 ((ep + T i) % 1000000000)

/-- Behind k rounds of each. -/
def Ech (B : Nat) (w wr : World) (N k : Nat) (K R A : Nat → ByteArray) (T : Nat → Int) (D : Nat → Bool) (ep : Int) : Prop :=
  ∃ (F G : Nat → Option Addr) (u0 u1 u2 u3 u4 : Value), Col wr N u0 u1 u2 u3 u4 (outK K D k) (outP R F D k) (outP A G D k) (outS T ep D k) (outN T ep D k) ∧
    (∀ i, i < k → D i = false → Rd B w (F i) (R i).size (byteV (R i)) ∧ Rd B w (G i) (A i).size (byteV (A i))) ∧ Below N w wr
theorem ech_no {B : Nat} {w wr : World} {N k : Nat} {K R A : Nat → ByteArray} {T : Nat → Int} {D : Nat → Bool} {ep : Int} (h : Ech B w wr N k K R A T D ep) (hd : D k = true) : Ech B w wr N (k + 1) K R A T D ep := by
  obtain ⟨F, G, u0, u1, u2, u3, u4, hC, hR, hB⟩ := h
  refine ⟨F, G, u0, u1, u2, u3, u4, ?_, fun i hi hdi => hR i ?_ hdi, hB⟩
  · simp only [outK, outP, outS, outN, live_no hd]; exact hC
  · by_cases e : i = k
    · subst e; rw [hd] at hdi; cases hdi
    · omega
theorem outP_congr {R : Nat → ByteArray} {F F' : Nat → Option Addr} {D : Nat → Bool} {k : Nat} (h : ∀ i, i < k → F i = F' i) : outP R F D k = outP R F' D k := by
  unfold outP
  refine List.map_congr_left fun i hi => ?_
  rw [h i (live_mem D hi).1]
theorem ech_yes {B : Nat} {w wr : World} {N k : Nat} {K R A : Nat → ByteArray} {T : Nat → Int} {D : Nat → Bool} {ep : Int} {F G : Nat → Option Addr} {u0 u1 u2 u3 u4 : Value} {a1 a2 : Option Addr}
    (hC : Col wr N u0 u1 u2 u3 u4 (outK K D k ++ [.string (K k)]) (outP R F D k ++ [.slice a1 (R k).size (R k).size]) (outP A G D k ++ [.slice a2 (A k).size (A k).size]) (outS T ep D k ++ [.int .i64 ((ep + T k) / 1000000000)]) (outN T ep D k ++ [.int .i64 ((ep + T k) % 1000000000)]))
    (hR : ∀ i, i < k → D i = false → Rd B w (F i) (R i).size (byteV (R i)) ∧ Rd B w (G i) (A i).size (byteV (A i))) (h1 : Rd B w a1 (R k).size (byteV (R k))) (h2 : Rd B w a2 (A k).size (byteV (A k))) (hB : Below N w wr) (hd : D k = false) : Ech B w wr N (k + 1) K R A T D ep := by
  refine ⟨fun i => if i = k then a1 else F i, fun i => if i = k then a2 else G i, u0, u1, u2, u3, u4, ?_, fun i hi hdi => ?_, hB⟩
  · have e1 : outP R (fun i => if i = k then a1 else F i) D (k + 1) = outP R F D k ++ [.slice a1 (R k).size (R k).size] := by
      rw [outP, live_yes hd, List.map_append, List.map_singleton, if_pos rfl]
      congr 1
      exact outP_congr fun i hi => if_neg (by omega)
    have e2 : outP A (fun i => if i = k then a2 else G i) D (k + 1) = outP A G D k ++ [.slice a2 (A k).size (A k).size] := by
      rw [outP, live_yes hd, List.map_append, List.map_singleton, if_pos rfl]
      congr 1
      exact outP_congr fun i hi => if_neg (by omega)
    rw [e1, e2]
    have e3 : outK K D (k + 1) = outK K D k ++ [.string (K k)] := by simp [outK, live_yes hd]
    have e4 : outS T ep D (k + 1) = outS T ep D k ++ [.int .i64 ((ep + T k) / 1000000000)] := by simp [outS, live_yes hd]
    have e5 : outN T ep D (k + 1) = outN T ep D k ++ [.int .i64 ((ep + T k) % 1000000000)] := by simp [outN, live_yes hd]
    rw [e3, e4, e5]
    exact hC
  · by_cases e : i = k
    · subst e; simpa using ⟨h1, h2⟩
    · simpa [e] using hR i (by omega) hdi

/-- 'string(b)', the bytes known. -/
theorem conv_str (B : Nat) (ao : Option Addr) (s : ByteArray) (c : Nat) (w : World) (h : Rd B w ao s.size (byteV s)) : (convert 48 9 (.slice ao s.size c)).run Try.prog w = .ok (.string s) w := by
  by_cases hz : s.size = 0
  · have hnil : s.data.toList = [] := List.eq_nil_of_length_eq_zero (by rw [Array.length_toList]; exact hz)
    have he : s = ByteArray.empty := by
      apply ByteArray.ext
      apply Array.ext'
      exact hnil
    subst he
    cases ao with
    | none => exact run_convert_bytes_nil w 48 5 Try.underlying48 Try.underlying5 _ _ 9 Try.underlying9
    | some a => exact run_convert_bytes_back w 48 9 5 a c [] Try.underlying48 Try.underlying5 Try.underlying9 (fun j hj => absurd hj (by simp))
  · obtain ⟨b, off, rfl, hb, hc⟩ := h (by omega)
    have hl : s.data.toList.length = s.size := by rw [Array.length_toList]; rfl
    have := run_convert_bytes_back (P := Try.prog) w 48 9 5 ⟨b, off, none⟩ c s.data.toList Try.underlying48 Try.underlying5 Try.underlying9 (fun j hj => by
      have hj' : j < s.size := by omega
      rw [Addr.add_lit, hc j hj', byteV_lt hj']
      rfl)
    rw [hl] at this
    simpa using this
theorem keepB {B : Nat} {w w' : World} {a : Addr} {v : Value} (hb : Below B w w') (h : w.cell? a = some v) (ha : a.block < B) : w'.cell? a = some v := (hb.cell ha).trans h
end Go.Proofs.Qxb6603657a
