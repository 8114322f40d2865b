/-
  LAWS THAT THE LAYING WANTS: 'append(b, s...)' of a string's bytes within the capacity; a store of eight cells; what is laid, as plain data. By an AI agent.
-/
import Derived.Test.Qxb6603657aFit
import Derived.Test.Qxb6603657aNew
import Derived.Deep.RegionHeld3
import Derived.Lib.AppendStr
namespace Go.Proofs.Qxb6603657a
open Go.RowKit
set_option linter.unusedVariables false

/-! ### append of a string's bytes, within the capacity -/
theorem wpList_append_fits_string {P : Program} (w : World) {ops : Array Oper} {rest : List Oper} {o : Oper} {a : Act} {Q : Exit → Act → World → Prop}
    (hg : o.guard = none) (s x : Operand) (t u : TypeId) (hop : o.op = Op.call { callee := Callee.builtin Builtin.append, args := #[s, x], argTypes := #[t, u] })
    (base : Nat) (e : TypeId) (i : TypeInfo) (h1 : P.underlying t = some (.slice e)) (hu : P.underlying u = some .string) (h2 : P.info? e = some i) (h4 : i.size = 1)
    (g k cap : Nat) (xs : List Value) (hs : a.eval s = .slice (some ⟨g, 0, none⟩) k cap) (hown : w.ownsRow base e 1 (.slice (some ⟨g, 0, none⟩) k cap) k xs) (str : ByteArray) (hx : a.eval x = .string str) (b1 : k + str.size ≤ cap)
    (hK : ∀ w', w'.ownsRow base e 1 (.slice (some ⟨g, 0, none⟩) (k + str.size) cap) (k + str.size) (xs ++ Lib.strCells str) → w.grownBy w' (some g) → wpList P ops Q rest (a.put o.dst (.slice (some ⟨g, 0, none⟩) (k + str.size) cap)) w') :
    wpList P ops Q (o :: rest) a w := by
  refine wpList_plain hg fun K hK' => ?_
  rcases hown.2 with ⟨hv, _⟩ | ⟨g', cap', cur, hv, hbg, hgc, hnc, hcm, hcs, htake⟩
  · simp at hv
  obtain ⟨rfl, rfl⟩ : g = g' ∧ cap = cap' := by simpa using hv
  have hcz : cur.size = cap := by simpa using hcs
  have hrun := Lib.run_append_room_string (P := P) w t u o.type e i h1 hu h2 h4 g k cap cur hgc str b1 (by omega)
  unfold Oper.wp
  simp [execOp, hop, resolve, invoke, builtin, hs, hx, hrun, Result.andThen]
  have hxl : xs.length = k := by simpa using hown.1
  have htk : cur.toList.take k = xs := by simpa using htake
  refine hK' _ _ (hK _ ⟨by simp [hxl, Lib.strCells_length], .inr ⟨g, cap, _, rfl, hbg, setRow_heap w g cur _ e _ hgc, b1, hcm, ?_, ?_⟩⟩ ⟨rfl, rfl, rfl, by simp, fun k' _ hk' => setRow_other w g k' _ (fun e => hk' (by simp [e]))⟩)
  · simp [Lib.strCells_length]; omega
  · rw [htk]
    simp only [Nat.mul_one]
    rw [← hxl, ← Lib.strCells_length str, ← List.length_append, ← List.append_assoc]
    exact List.take_left

/-! ### eight cells stored -/
theorem keep0 {w : World} {a : Addr} {v : Value} (h : w.cell? a = some v) : w.drew.cell? a = some v := h
theorem keep1 {w : World} {a : Addr} {v : Value} (h : w.cell? a = some v) (o : Obj) : (w.alloc o).drew.cell? a = some v :=
  (World.cell?_alloc_lt w o a (World.block_lt_of_cell? w a h)).trans h
theorem cell_setOther {w : World} {a : Addr} {v : Value} (h : w.cell? a = some v) {p : Addr} (hp : a.block ≠ p.block) (u : Value) : (w.setCell p u).cell? a = some v :=
  (World.cell?_of_block (w := w) (Below.heap_setCell w p u a.block hp)).trans h
theorem keep8 {w : World} {a : Addr} {v : Value} (h : w.cell? a = some v) {b : Nat} (hb : a.block ≠ b) (o0 o1 o2 o3 o4 o5 o6 o7 : Nat) (v0 v1 v2 v3 v4 v5 v6 v7 : Value) (o : Obj) :
    (((((((((w.setCell ⟨b, o0, none⟩ v0).setCell ⟨b, o1, none⟩ v1).setCell ⟨b, o2, none⟩ v2).setCell ⟨b, o3, none⟩ v3).setCell ⟨b, o4, none⟩ v4).setCell ⟨b, o5, none⟩ v5).setCell ⟨b, o6, none⟩ v6).setCell ⟨b, o7, none⟩ v7).alloc o).drew.cell? a = some v :=
  keep1 (cell_setOther (cell_setOther (cell_setOther (cell_setOther (cell_setOther (cell_setOther (cell_setOther (cell_setOther h hb _) hb _) hb _) hb _) hb _) hb _) hb _) hb _) o

theorem block8 (w : World) (b o0 o1 o2 o3 o4 o5 o6 o7 : Nat) (v0 v1 v2 v3 v4 v5 v6 v7 : Value) (o : Obj) (k : Nat) (hk : k ≠ b) (hlt : k < w.heap.size) :
    (((((((((w.setCell ⟨b, o0, none⟩ v0).setCell ⟨b, o1, none⟩ v1).setCell ⟨b, o2, none⟩ v2).setCell ⟨b, o3, none⟩ v3).setCell ⟨b, o4, none⟩ v4).setCell ⟨b, o5, none⟩ v5).setCell ⟨b, o6, none⟩ v6).setCell ⟨b, o7, none⟩ v7).alloc o).drew.heap[k]? = w.heap[k]? := by
  show ((((((((((w.setCell ⟨b, o0, none⟩ v0).setCell ⟨b, o1, none⟩ v1).setCell ⟨b, o2, none⟩ v2).setCell ⟨b, o3, none⟩ v3).setCell ⟨b, o4, none⟩ v4).setCell ⟨b, o5, none⟩ v5).setCell ⟨b, o6, none⟩ v6).setCell ⟨b, o7, none⟩ v7).alloc o)).heap[k]? = w.heap[k]?
  rw [Below.heap_alloc _ _ _ (by simp [World.setCell]; omega)]
  repeat rw [Below.heap_setCell _ _ _ _ hk]
theorem size8 (w : World) (b o0 o1 o2 o3 o4 o5 o6 o7 : Nat) (v0 v1 v2 v3 v4 v5 v6 v7 : Value) (o : Obj) :
    (((((((((w.setCell ⟨b, o0, none⟩ v0).setCell ⟨b, o1, none⟩ v1).setCell ⟨b, o2, none⟩ v2).setCell ⟨b, o3, none⟩ v3).setCell ⟨b, o4, none⟩ v4).setCell ⟨b, o5, none⟩ v5).setCell ⟨b, o6, none⟩ v6).setCell ⟨b, o7, none⟩ v7).alloc o).drew.heap.size = w.heap.size + 1 := by
  simp [World.setCell]
theorem below8 {B : Nat} {a w : World} (h : Below B a w) (b o0 o1 o2 o3 o4 o5 o6 o7 : Nat) (v0 v1 v2 v3 v4 v5 v6 v7 : Value) (o : Obj) (hb : B ≤ b) (hB : B ≤ w.heap.size) :
    Below B a (((((((((w.setCell ⟨b, o0, none⟩ v0).setCell ⟨b, o1, none⟩ v1).setCell ⟨b, o2, none⟩ v2).setCell ⟨b, o3, none⟩ v3).setCell ⟨b, o4, none⟩ v4).setCell ⟨b, o5, none⟩ v5).setCell ⟨b, o6, none⟩ v6).setCell ⟨b, o7, none⟩ v7).alloc o).drew :=
  ((((((((((h.setCell (p := ⟨b, o0, none⟩) hb v0).setCell (p := ⟨b, o1, none⟩) hb v1).setCell (p := ⟨b, o2, none⟩) hb v2).setCell (p := ⟨b, o3, none⟩) hb v3).setCell (p := ⟨b, o4, none⟩) hb v4).setCell (p := ⟨b, o5, none⟩) hb v5).setCell (p := ⟨b, o6, none⟩) hb v6).setCell (p := ⟨b, o7, none⟩) hb v7).alloc (by simp [World.setCell]; exact hB) o).drew)

/-- The row that was written. -/
theorem row8 {w : World} {b : Nat} {t : TypeId} {n : Nat} {f : Nat → Value} (h : w.rowIs b t n f) (p : Nat) (v0 v1 v2 v3 v4 v5 v6 v7 : Value) (o : Obj) :
    ∃ f', (((((((((w.setCell ⟨b, p, none⟩ v0).setCell ⟨b, p + 1, none⟩ v1).setCell ⟨b, p + 2, none⟩ v2).setCell ⟨b, p + 3, none⟩ v3).setCell ⟨b, p + 4, none⟩ v4).setCell ⟨b, p + 5, none⟩ v5).setCell ⟨b, p + 6, none⟩ v6).setCell ⟨b, p + 7, none⟩ v7).alloc o).drew.rowIs b t n f' ∧
      (f' p = v0 ∧ f' (p + 1) = v1 ∧ f' (p + 2) = v2 ∧ f' (p + 3) = v3 ∧ f' (p + 4) = v4 ∧ f' (p + 5) = v5 ∧ f' (p + 6) = v6 ∧ f' (p + 7) = v7) ∧ ∀ x, x < p ∨ p + 8 ≤ x → f' x = f x := by
  refine ⟨_, ((((((((((h.set p v0).set (p + 1) v1).set (p + 2) v2).set (p + 3) v3).set (p + 4) v4).set (p + 5) v5).set (p + 6) v6).set (p + 7) v7).alloc o).drew), ⟨?_, ?_, ?_, ?_, ?_, ?_, ?_, ?_⟩, ?_⟩
  all_goals try simp
  intro x hx
  rw [if_neg (by omega), if_neg (by omega), if_neg (by omega), if_neg (by omega), if_neg (by omega), if_neg (by omega), if_neg (by omega), if_neg (by omega)]

/-! ### what is laid, as plain data -/
/-- Where record i's bytes begin. -/
def offs (K R A : Nat → ByteArray) (i : Nat) : Nat := sz K i + sz R i + sz A i
theorem offs_succ (K R A : Nat → ByteArray) (i : Nat) : offs K R A (i + 1) = offs K R A i + (K i).size + (R i).size + (A i).size := by
  simp only [offs, sz_succ]; omega
theorem sz_mono (K : Nat → ByteArray) {i n : Nat} (h : i ≤ n) : sz K i ≤ sz K n := by
  induction n with
  | zero => obtain rfl : i = 0 := (by omega); exact Nat.le_refl _
  | succ n ih =>
    by_cases e : i = n + 1
    · subst e; exact Nat.le_refl _
    · rw [sz_succ]; have := ih (by omega); omega
theorem offs_mono (K R A : Nat → ByteArray) {i n : Nat} (h : i ≤ n) : offs K R A i ≤ offs K R A n := by
  have := sz_mono K h; have := sz_mono R h; have := sz_mono A h
  simp only [offs]; omega
/-- The bytes of the first k records, as cells. -/
def cat (K R A : Nat → ByteArray) : Nat → List Value
  | 0 => []
  | k + 1 => cat K R A k ++ Lib.strCells (K k) ++ Lib.strCells (R k) ++ Lib.strCells (A k)
theorem cat_length (K R A : Nat → ByteArray) (k : Nat) : (cat K R A k).length = offs K R A k := by
  induction k with
  | zero => rfl
  | succ k ih => simp only [cat, List.length_append, ih, Lib.strCells_length, offs_succ]
theorem cat_prefix (K R A : Nat → ByteArray) {i n : Nat} (h : i ≤ n) {x : Nat} (hx : x < offs K R A i) : (cat K R A n)[x]? = (cat K R A i)[x]? := by
  induction n with
  | zero => obtain rfl : i = 0 := (by omega); rfl
  | succ n ih =>
    by_cases e : i = n + 1
    · subst e; rfl
    · have hle := offs_mono K R A (show i ≤ n by omega)
      rw [← ih (by omega), cat, List.append_assoc, List.append_assoc, List.getElem?_append_left (by rw [cat_length]; omega)]
theorem strCells_get {s : ByteArray} {x : Nat} (h : x < s.size) : (Lib.strCells s)[x]? = some (byteV s x) := by
  rw [byteV_lt h, Lib.strCells]
  have : x < s.data.toList.length := by simpa using h
  rw [List.getElem?_map, List.getElem?_eq_getElem this]
  rfl
theorem cat_key (K R A : Nat → ByteArray) {i n x : Nat} (h : i < n) (hx : x < (K i).size) : (cat K R A n)[offs K R A i + x]? = some (byteV (K i) x) := by
  rw [cat_prefix K R A (show i + 1 ≤ n by omega) (by rw [offs_succ]; omega), cat, List.append_assoc, List.append_assoc, ← cat_length, List.getElem?_append_right (by omega), Nat.add_sub_cancel_left,
    List.getElem?_append_left (by rw [Lib.strCells_length]; exact hx), strCells_get hx]
theorem cat_req (K R A : Nat → ByteArray) {i n x : Nat} (h : i < n) (hx : x < (R i).size) : (cat K R A n)[offs K R A i + (K i).size + x]? = some (byteV (R i) x) := by
  rw [cat_prefix K R A (show i + 1 ≤ n by omega) (by rw [offs_succ]; omega), cat, List.append_assoc, List.append_assoc, ← cat_length, Nat.add_assoc, List.getElem?_append_right (by omega), Nat.add_sub_cancel_left,
    List.getElem?_append_right (by rw [Lib.strCells_length]; omega), Lib.strCells_length, Nat.add_sub_cancel_left, List.getElem?_append_left (by rw [Lib.strCells_length]; exact hx), strCells_get hx]
theorem cat_ans (K R A : Nat → ByteArray) {i n x : Nat} (h : i < n) (hx : x < (A i).size) : (cat K R A n)[offs K R A i + (K i).size + (R i).size + x]? = some (byteV (A i) x) := by
  rw [cat_prefix K R A (show i + 1 ≤ n by omega) (by rw [offs_succ]; omega), cat, List.append_assoc, List.append_assoc, ← cat_length, Nat.add_assoc, Nat.add_assoc, List.getElem?_append_right (by omega), Nat.add_sub_cancel_left,
    List.getElem?_append_right (by rw [Lib.strCells_length]; omega), Lib.strCells_length, Nat.add_sub_cancel_left, List.getElem?_append_right (by rw [Lib.strCells_length]; omega), Lib.strCells_length, Nat.add_sub_cancel_left, strCells_get hx]

/-- Cell t of record i. -/
def recV (K R A : Nat → ByteArray) (T : Nat → Int) (D : Nat → Bool) (fc : Int) (i : Nat) : Nat → Value
  | 0 => .int .u64 0
  | 1 => .int .i64 (T i)
  | 2 => .int .i64 fc
  | 3 => .int .i64 (offs K R A i : Nat)
  | 4 => .int .i64 ((K i).size : Nat)
  | 5 => .int .i64 ((R i).size : Nat)
  | 6 => .int .i64 ((A i).size : Nat)
  | _ => .bool (D i)
end Go.Proofs.Qxb6603657a
