/-
  A VALID WIRE NAME; zzb1ValidWire, zzb1WireLabels, ZZNameFromWire, label. By an AI agent.
-/
import Derived.Test.Qxb6603816aLeaf
import Derived.Maps.AppendAt
namespace Go.Proofs.Qxb6603816a
open Go.RowKit
set_option linter.unusedVariables false

/-- Byte i, as a number. -/
def byteN (s : ByteArray) (i : Nat) : Nat := (bts s).getD i 0
theorem byteN_at {s : ByteArray} {i : Nat} (h : i < s.size) : s[i].toNat = byteN s i := by
  have := bts_get h
  simp [byteN, List.getD, this]
theorem byteN_lt (s : ByteArray) (i : Nat) : byteN s i < 256 := by
  by_cases h : i < s.size
  · rw [← byteN_at h]; exact s[i].toNat_lt
  · rw [byteN, List.getD, List.getElem?_eq_none (by rw [bts_length]; omega)]; decide

/-- L: where the labels from offset i on begin; then one zero octet, the last. -/
def Chain (s : ByteArray) : Nat → List Nat → Prop
  | i, [] => i + 1 = s.size ∧ byteN s i = 0
  | i, p :: L => p = i ∧ byteN s i ≠ 0 ∧ i + 1 + byteN s i < s.size ∧ Chain s (i + 1 + byteN s i) L
/-- The wire form of a name whose labels begin at L. -/
def Wire (s : ByteArray) (L : List Nat) : Prop := (s.size = 0 ∧ L = []) ∨ (s.size ≤ 255 ∧ Chain s 0 L)
theorem chain_len {s : ByteArray} : ∀ {L : List Nat} {i : Nat}, Chain s i L → i + 2 * L.length < s.size
  | [], i, h => by have := h.1; simp; omega
  | p :: L, i, h => by
    obtain ⟨_, h1, h2, h3⟩ := h
    have := chain_len h3
    simp only [List.length_cons]
    omega

def Says (e : Ending) (p : Prop) : Prop := e = .returned (.bool false) ∨ (e = .returned (.bool true) ∧ p)
theorem says_no {p : Prop} : Says (.returned (.bool false)) p := .inl rfl
theorem says_yes {p : Prop} (h : p) : Says (.returned (.bool true)) p := .inr ⟨rfl, h⟩

set_option maxRecDepth 100000 in
set_option maxHeartbeats 1000000 in
theorem valid_any (s : ByteArray) (w : World) (hs : s.size ≤ 1048576) :
    Calls Try.prog 16 #[.string s] w fun e w' => Says e (∃ L, Wire s L) ∧ w' = w := by
  by_cases h0 : s.size = 0
  · have g0 : ((s.size : Int) == 0) = true := beq_iff_eq.2 (by omega)
    have Y : Hid (∃ L, Wire s L) := ⟨[], .inl ⟨h0, rfl⟩⟩
    clear h0
    go_enter Try.func16, Try.ntmps16
    go_wp2_with fail
    go_ret
    exact ⟨says_yes Y.out, rfl⟩
  have g0 : ((s.size : Int) == 0) = false := beq_eq_false_iff_ne.2 (by omega)
  by_cases h1 : 255 < s.size
  · have g1 : (255 : Int) < s.size := by omega
    go_enter Try.func16, Try.ntmps16
    go_wp2_with fail
    go_ret
    exact ⟨says_no, rfl⟩
  have g1 : decide ((255 : Int) < s.size) = false := decide_eq_false (by omega)
  go_enter Try.func16, Try.ntmps16
  go_wp2_with fail
  go_loop [3] (fun i => ∃ k : Nat, k < s.size ∧ i = .int .i64 k ∧ Hid (∀ L, Chain s k L → ∃ L', Chain s 0 L')) (fun i => s.size - (intOf i).toNat)
  case atStart => exact ⟨0, by omega, rfl, fun L h => ⟨L, h⟩⟩
  case round =>
    obtain ⟨k, hk, rfl, HK⟩ := hrel
    have e1 := byteN_at hk
    obtain ⟨l, hl⟩ : ∃ l, l = byteN s k := ⟨_, rfl⟩
    rw [← hl] at e1
    have bl : l < 256 := by rw [hl]; exact byteN_lt s k
    have HL : Hid (l = byteN s k) := hl
    clear hl
    by_cases z : l = 0
    · subst z
      by_cases hend : k + 1 = s.size
      · have g2 : ((k : Int) == s.size - 1) = true := beq_iff_eq.2 (by omega)
        have Y : Hid (∃ L, Wire s L) := by
          obtain ⟨L', h'⟩ := HK.out [] ⟨hend, HL.out.symm⟩
          exact ⟨L', .inr ⟨by omega, h'⟩⟩
        go_wp2_with fail
        go_ret
        exact ⟨says_yes Y.out, rfl⟩
      · have g2 : ((k : Int) == s.size - 1) = false := beq_eq_false_iff_ne.2 (by omega)
        go_wp2_with fail
        go_ret
        exact ⟨says_no, rfl⟩
    · have g2 : ((l : Int) == 0) = false := beq_eq_false_iff_ne.2 (by omega)
      by_cases hend : k + 1 + l < s.size
      · have g3 : decide ((s.size : Int) ≤ k + 1 + l) = false := decide_eq_false (by omega)
        have HK' : Hid (∀ L, Chain s (k + 1 + l) L → ∃ L', Chain s 0 L') := fun L h => HK.out (k :: L) ⟨rfl, by rw [← HL.out]; exact z, by rw [← HL.out]; exact hend, by rw [← HL.out]; exact h⟩
        go_wp2_with fail
        go_round
        case rel => exact ⟨k + 1 + l, hend, by go_num, HK'⟩
        case measure => simp [intOf]; omega
      · have g3 : (s.size : Int) ≤ k + 1 + l := by omega
        go_wp2_with fail
        go_ret
        exact ⟨says_no, rfl⟩

/-- The label that begins at p. -/
def lab (s : ByteArray) (p : Nat) : ByteArray := s.extract (p + 1) (p + 1 + byteN s p)
theorem Try.info9 : (Try.prog.info? 9).map (fun i => (i.zero, i.size, i.bytes)) = some (some (.string ByteArray.empty), 1, 16) := by kernel_rfl
theorem Try.info5 : (Try.prog.info? 5).map (fun i => (i.zero, i.size, i.bytes)) = some (some (.int .u8 0), 1, 1) := by kernel_rfl
theorem one_new (w : World) (M : Nat) (hM : w.heap.size = M) (x : Value) (t : TypeId) : ∀ j u, [x][j]? = some u → (w.alloc (.cells #[x] t)).cell? ((⟨M, 0, none⟩ : Addr).add j) = some u := by
  subst hM; exact cell_one_new w x t
theorem owns_form {w : World} {base : Nat} {e : TypeId} {v : Value} {n : Nat} {xs : List Value} (h : w.ownsRow base e 1 v n xs) : ∃ ao c, v = .slice ao n c := by
  rcases h.2 with ⟨hv, hn⟩ | ⟨g, cap, cur, hv, _⟩
  · exact ⟨none, 0, by rw [hv, hn]⟩
  · exact ⟨_, cap, hv⟩

/-- Behind some rounds of zzb1WireLabels. -/
def WL (s : ByteArray) (L : List Nat) (w wr : World) (v : Value) (i : Nat) : Prop :=
  ∃ done rest, L = done ++ rest ∧ Chain s i rest ∧ wr.ownsRow w.heap.size 9 1 v done.length (done.map fun p => .string (lab s p)) ∧ Below w.heap.size w wr

set_option maxRecDepth 100000 in
set_option maxHeartbeats 1000000 in
theorem labels_any (s : ByteArray) (L : List Nat) (w : World) (hW : Wire s L) :
    Calls Try.prog 19 #[.string s] w fun e w' => ∃ v, e = .returned v ∧ w'.ownsRow w.heap.size 9 1 v L.length (L.map fun p => .string (lab s p)) ∧ Below w.heap.size w w' := by
  rcases hW with ⟨h0, rfl⟩ | ⟨hs, hC⟩
  · have g0 : (s.size : Int) ≤ 0 := by omega
    clear h0
    go_enter Try.func19, Try.ntmps19
    go_wp2_with fail
    refine wp_loop_rounds 1 ?_
    rw [rounds_succ]
    go_wp2_with fail
    go_ret
    exact ⟨_, rfl, World.ownsRow_nil _ _ _ _, Below.refl _ _⟩
  · obtain ⟨i9, hi9, z90, z91, z92⟩ := info_parts Try.info9
    have hLl := chain_len hC
    go_enter Try.func19, Try.ntmps19
    go_wp2_with fail
    go_loopw [3, 4] (fun v i wr => ∃ k : Nat, k ≤ s.size ∧ i = .int .i64 k ∧ WL s L w wr v k) (fun _ i _ => s.size - (intOf i).toNat)
    case atStart => exact ⟨0, Nat.zero_le _, rfl, [], L, rfl, hC, World.ownsRow_nil _ _ _ _, Below.refl _ _⟩
    case round =>
      clear hC
      obtain ⟨k, hk, rfl, done, rest, hL, hC, hown, hB⟩ := hrel
      have HL : Hid (L = done ++ rest) := hL
      clear hL
      have hlen := chain_len hC
      have hk' : k < s.size := by omega
      have e1 := byteN_at hk'
      cases rest with
      | nil =>
        obtain ⟨c1, c2⟩ := hC
        rw [c2] at e1
        clear c2 c1
        go_wp2_with fail
        go_ret
        have e := HL.out
        rw [List.append_nil] at e
        subst e
        exact ⟨_, rfl, hown, hB⟩
      | cons p rest =>
        obtain ⟨rfl, c1, c2, c3⟩ := hC
        have hdl : done.length ≤ 255 := by have h := congrArg List.length HL.out; rw [List.length_append] at h; omega
        have WLn : ∀ v' w1, w1.ownsRow w.heap.size 9 1 v' (done.length + 1) (done.map (fun p => .string (lab s p)) ++ [.string (lab s p)]) → Below w.heap.size w w1 → WL s L w w1 v' (p + 1 + byteN s p) := fun v' w1 ho hb =>
          ⟨done ++ [p], rest, by rw [HL.out, List.append_assoc]; rfl, c3, by simpa using ho, hb⟩
        have hlab : lab s p = s.extract (p + 1) (p + 1 + byteN s p) := rfl
        obtain ⟨l, hl⟩ : ∃ l, l = byteN s p := ⟨_, rfl⟩
        rw [← hl] at e1 c1 c2 WLn hlab
        obtain ⟨lb, hlb⟩ : ∃ x, x = lab s p := ⟨_, rfl⟩
        rw [← hlb] at WLn hlab
        have W2 : Hid (∀ v' w1, w1.ownsRow w.heap.size 9 1 v' (done.length + 1) (done.map (fun p => .string (lab s p)) ++ [.string lb]) → Below w.heap.size w w1 → WL s L w w1 v' (p + 1 + l)) := WLn
        have hext : s.extract (p + 1) (p + 1 + l) = lb := hlab.symm
        clear c3 hl hlb hlab WLn
        have g0 : ((l : Int) == 0) = false := beq_eq_false_iff_ne.2 (by omega)
        have bl : l < 256 := by omega
        have hsz := hB.size
        go_wp2_with (first
          | (at_builtin; refine wpList_append_own _ rfl (.tmp 16) (.tmp 25) 37 rfl w.heap.size 9 i9 (.string ByteArray.empty) 1 16 Try.underlying37 hi9 z90 z91 z92 rfl (by decide) _ done.length (done.map fun p => .string (lab s p)) rfl (hown.alloc _) _ 1 1 [.string lb] rfl rfl (one_new _ _ (by simp) _ _) (by simp [Value.oneCell']) (by unfold maxLen; omega) (by omega) (by simp; omega) ?_; intro v' w1 hown' hgr _))
        go_roundw
        case rel => exact ⟨p + 1 + l, by omega, by go_num, W2.out v' w1 hown' ((hB.alloc (by omega) _).grown hgr (by simp; omega) (fun k hk => (hown.lt k hk).1))⟩
        case measure => simp [intOf]; omega

set_option maxHeartbeats 400000 in
theorem fromWire_any (s : ByteArray) (w : World) : Calls Try.prog 18 #[.string s] w fun e w' => e = .returned (.agg #[.string s]) ∧ Below w.heap.size w w' := by
  go_enter Try.func18, Try.ntmps18
  go_wp2
  exact bodyPost_ret (v := .agg #[.string s]) (by simp [results, Try.results18, go_sem]) rfl ⟨rfl, (Below.refl _ _).alloc (Nat.le_refl _) _⟩

set_option maxRecDepth 100000 in
set_option maxHeartbeats 400000 in
theorem label_any (s : ByteArray) (p : Nat) (w : World) (hs : s.size ≤ 255) (h : p + 1 + byteN s p < s.size) :
    Calls Try.prog 30 #[.agg #[.string s], .int .u8 p] w fun e w' => e = .returned (.string (lab s p)) ∧ Below w.heap.size w w' := by
  have e1 := byteN_at (show p < s.size by omega)
  have hlab : lab s p = s.extract (p + 1) (p + 1 + byteN s p) := rfl
  obtain ⟨l, hl⟩ : ∃ l, l = byteN s p := ⟨_, rfl⟩
  rw [← hl] at e1 h hlab
  obtain ⟨lb, hlb⟩ : ∃ x, x = lab s p := ⟨_, rfl⟩
  rw [← hlb] at hlab ⊢
  have hext : s.extract (p + 1) (p + 1 + l) = lb := hlab.symm
  clear hl hlb hlab
  have bp : (p : Int) < s.size := by omega
  have q1 : IntKind.u8.wrap ((p : Int) + 1) = p + 1 := by rw [IntKind.wrap_u8']; omega
  have q2 : IntKind.i64.wrap ((p : Int) + 1) = p + 1 := by rw [IntKind.wrap_i64]; omega
  have q3 : IntKind.i64.wrap ((p : Int) + 1 + l) = p + 1 + l := by rw [IntKind.wrap_i64]; omega
  have q4 : IntKind.i64.wrap (p : Int) = p := by rw [IntKind.wrap_i64]; omega
  have q5 : IntKind.i64.wrap (l : Int) = l := by rw [IntKind.wrap_i64]; omega
  go_enter Try.func30, Try.ntmps30
  go_wp2_with fail
  go_quiet (fail)
  go_wp2_with fail
  go_ret
  refine ⟨?_, ((Below.refl _ _).alloc (Nat.le_refl _) _).trans ⟨rfl, rfl, rfl, Nat.le_refl _, fun _ _ => rfl⟩⟩
  show Ending.returned (.string (s.extract (p + 1) (p + 1 + l))) = _
  rw [hext]
end Go.Proofs.Qxb6603816a
