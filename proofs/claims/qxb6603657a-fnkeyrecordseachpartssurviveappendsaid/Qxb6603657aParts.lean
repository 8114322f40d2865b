/-
  '(*keyRecords).rec', '(*keyRecords).parts'. By an AI agent.
-/
import Derived.Test.Qxb6603657aMid
namespace Go.Proofs.Qxb6603657a
open Go.RowKit
set_option linter.unusedVariables false

theorem drew4 (w : World) (a b c d : Nat) : ∃ m, (((w.drewN a).drewN b).drewN c).drewN d = w.drewN m := ⟨a + (b + (c + d)), by rw [World.drewN_drewN, World.drewN_drewN, World.drewN_drewN]⟩

set_option maxRecDepth 100000 in
set_option maxHeartbeats 1000000 in
/-- '(*keyRecords).rec', at record i. -/
theorem rec_any (kb N nb cb ld n i : Nat) (base front next fc ep x : Int) (w : World) (hn : ld + n ≤ 512 * nb) (hi : i < n) (hb0 : 0 ≤ base) (hx : x = base + (ld + i)) (hx1 : x ≤ 18446744073709551615)
    (hk : Kr w kb (.slice (some ⟨N, 0, none⟩) nb nb) (.slice (some ⟨cb, 0, none⟩) 1 1) base front next fc ep) (hh : ∀ j, j < nb → w.cell? ⟨N, j, none⟩ = some (.slice (some ⟨N + 1 + j, 0, none⟩) 512 512)) :
    Calls Try.prog 38 #[.pointer (some ⟨kb, 0, none⟩), .int .u64 x] w fun e w' => e = .returned (.pointer (some ⟨N + 1 + (ld + i) / 512, (ld + i) % 512 * 8, none⟩)) ∧ w' = w := by
  have c4 := hk.blocks
  have c5 := hk.base
  have hj := hh ((ld + i) / 512) (by omega)
  clear hk hh
  obtain ⟨j, ej⟩ : ∃ j, j = (ld + i) / 512 := ⟨_, rfl⟩
  obtain ⟨m, em⟩ : ∃ m, m = (ld + i) % 512 := ⟨_, rfl⟩
  have hjn : j < nb := by omega
  have hm : m < 512 := by omega
  rw [← ej] at hj ⊢
  rw [← em]
  have e1 : x - base = 512 * (j : Int) + m := by omega
  have e2 : (512 * (j : Int) + m) / 512 = j := by omega
  have e3 : (512 * (j : Int) + m) % 512 = m := by omega
  have hx0 : 0 ≤ x := by omega
  clear ej em hx
  go_enter Try.func38, Try.ntmps38
  go_wp2
  go_ret
  exact ⟨rfl, rfl⟩

set_option maxRecDepth 100000 in
set_option maxHeartbeats 2000000 in
theorem parts_walk (kb RB ro cb ch s O ks rs zs : Nat) (fc : Int) (x : Int) (w : World) (hO : O ≤ 1048576) (hm : s + ks + rs + zs ≤ O) (hf0 : 0 ≤ fc) (hf1 : fc ≤ 9223372036854775807)
    (r2 : w.cell? ⟨RB, ro + 2, none⟩ = some (.int .i64 fc)) (r3 : w.cell? ⟨RB, ro + 3, none⟩ = some (.int .i64 s)) (r4 : w.cell? ⟨RB, ro + 4, none⟩ = some (.int .i64 ks)) (r5 : w.cell? ⟨RB, ro + 5, none⟩ = some (.int .i64 rs)) (r6 : w.cell? ⟨RB, ro + 6, none⟩ = some (.int .i64 zs))
    (c9 : w.cell? ⟨kb, 11, none⟩ = some (.slice (some ⟨cb, 0, none⟩) 1 1)) (c10 : w.cell? ⟨kb, 12, none⟩ = some (.int .i64 fc)) (hc : w.cell? ⟨cb, 0, none⟩ = some (.slice (some ⟨ch, 0, none⟩) O O))
    (hrec : Hid (Calls Try.prog 38 #[.pointer (some ⟨kb, 0, none⟩), .int .u64 x] w fun e w' => e = .returned (.pointer (some ⟨RB, ro, none⟩)) ∧ w' = w)) :
    Calls Try.prog 39 #[.pointer (some ⟨kb, 0, none⟩), .int .u64 x] w fun e w' => ∃ a0 a1 a2, e = .returned (.tuple #[.slice a0 ks ks, .slice a1 rs rs, .slice a2 zs zs]) ∧
      (0 < ks → a0 = some ⟨ch, s, none⟩) ∧ (0 < rs → a1 = some ⟨ch, s + ks, none⟩) ∧ (0 < zs → a2 = some ⟨ch, s + ks + rs, none⟩) ∧ ∃ m, w' = w.drewN m := by
  have f1 : IntKind.i64.wrap (fc - fc) = 0 := by rw [IntKind.wrap_i64]; omega
  have key : (O = s ∧ ks = 0 ∧ rs = 0 ∧ zs = 0) ∨ (O ≠ s ∧ O - s = ks ∧ rs = 0 ∧ zs = 0) ∨ (O ≠ s ∧ O - s ≠ ks ∧ O - s - ks = rs ∧ zs = 0) ∨ (O ≠ s ∧ O - s ≠ ks ∧ O - s - ks ≠ rs) := by omega
  rcases key with ⟨rfl, rfl, rfl, rfl⟩ | ⟨g1, rfl, rfl, rfl⟩ | ⟨g1, g2, rfl, rfl⟩ | ⟨g1, g2, g3⟩
  all_goals
    go_enter Try.func39, Try.ntmps39
    go_wp2_with (go_at_call 38; refine hrec.out.mono ?_; rintro e w' ⟨rfl, rfl⟩)
    go_quiet (fail)
    go_wp2_with fail
    go_quiet (fail)
    go_wp2_with fail
    go_quiet (fail)
    go_wp2_with fail
    go_quiet (fail)
    go_wp2_with fail
    go_ret3
    refine ⟨_, _, _, rfl, fun h => ?_, fun h => ?_, fun h => ?_, drew4 _ _ _ _ _⟩
    all_goals first | (exfalso; omega) | rfl

/-- '(*keyRecords).parts', at record i. -/
theorem parts_any (B kb n ld i : Nat) (K R A : Nat → ByteArray) (T : Nat → Int) (D : Nat → Bool) (base fc ep x : Int) (w : World) (hL : Lay w B kb n ld K R A T D base fc ep) (hO : offs K R A n ≤ 1048576) (hi : i < n) (hb0 : 0 ≤ base) (hx : x = base + (ld + i)) (hx1 : x ≤ 18446744073709551615) (hf0 : 0 ≤ fc) (hf1 : fc ≤ 9223372036854775807) :
    Calls Try.prog 39 #[.pointer (some ⟨kb, 0, none⟩), .int .u64 x] w fun e w' => ∃ a0 a1 a2, e = .returned (.tuple #[.slice a0 (K i).size (K i).size, .slice a1 (R i).size (R i).size, .slice a2 (A i).size (A i).size]) ∧
      Rd B w a0 (K i).size (byteV (K i)) ∧ Rd B w a1 (R i).size (byteV (R i)) ∧ Rd B w a2 (A i).size (byteV (A i)) ∧ ∃ m, w' = w.drewN m := by
  obtain ⟨N, nb, cb, ch, h1, h2, h3, h4, h5, h6, hk, hh, hr, hc, hbytes⟩ := hL
  have hm1 : offs K R A (i + 1) ≤ offs K R A n := offs_mono K R A (show i + 1 ≤ n by omega)
  rw [offs_succ] at hm1
  refine (parts_walk kb (N + 1 + (ld + i) / 512) ((ld + i) % 512 * 8) cb ch (offs K R A i) (offs K R A n) (K i).size (R i).size (A i).size fc x w hO hm1 hf0 hf1 (hr i hi 2 (by omega)) (hr i hi 3 (by omega)) (hr i hi 4 (by omega)) (hr i hi 5 (by omega)) (hr i hi 6 (by omega)) hk.chunks hk.fc hc
    (rec_any kb N nb cb ld n i base _ _ fc ep x w h6 hi hb0 hx hx1 hk hh)).mono ?_
  rintro e w' ⟨a0, a1, a2, rfl, e0, e1, e2, m, rfl⟩
  exact ⟨a0, a1, a2, rfl, fun h => ⟨ch, _, e0 h, h4, fun x hx => hbytes _ _ (cat_key K R A hi hx)⟩, fun h => ⟨ch, _, e1 h, h4, fun x hx => hbytes _ _ (cat_req K R A hi hx)⟩, fun h => ⟨ch, _, e2 h, h4, fun x hx => hbytes _ _ (cat_ans K R A hi hx)⟩, m, rfl⟩
end Go.Proofs.Qxb6603657a
