/-
  NARROWER THAN 'FOR EVERY INPUT', by the rows' own cells (each row's printed sentence says how): PropParseTimeIsPlainDecimalNumeral: laid · PropDaysSinceEpochCountsEachNextDate: laid · PropClockSequentialEqualsLamportCounter: ifaces, laid.
  DERIVED. THE GIVEN ROWS OF THIS SEAT. 3 by the template 'for every input the law returns true; each argument reads behind the call as it read before'; 0 by the template 'total and deterministic' (their statements: Qxb6003346aDoorTotals.lean).
  GIVEN WITH THE SEED: the statements are not yours to turn. If you find one false, say at which input.
  Laid BY PROGRAM, IN A SANDBOX (cutbox-rows.mjs): the forced cells as the released guide's own fill.sh prints them over the translation 6b5c4d8ff812d2a3… (all of the seat's roots in one cut). By AI agents, Wed Nov 11 2026. No macro, syntax, notation, axiom, sorry.
-/
import Derived.Test.Qxb6003346aDoorChecked
import GoSem.Claim
import GoSem.ClaimJoined
import GoSem.ClaimMapViews
import Derived.JoinedTies
import Derived.KernelRfl
namespace Go.Proofs.Qxb6003346aDoor
/- THE CELL 'sum', in the pinned program and in every row, IS THE sha256 OF THE DUMP (.gsa) THAT Qxb6003346aDoorProg.lean LOADS. Nothing in Lean hashes anything: it is a label: what it is worth is what the hold of that sum in a sandbox is worth. -/
noncomputable def Tryd.pinned : Pinned := { name := "qxb6003346adoor", sum := "6b5c4d8ff812d2a34fbf4031dacc80a6ea51104b4121c0ff5a2ee91f51c547c7", checked := Tryd.checked }
namespace Rows
def none {H : Type} : Left H := { results := [], args := [] }

/- WHAT THE LISTED PACKAGE-LEVEL VARIABLES READ AS WHEN THE CALL BEGINS. Each datum BY PROGRAM (the guide's laid-datum.mjs) off the statement by which the dump's own 'gosem.cut.vars' lays the variable. In a bare row this is a premise. The card (Qxb6003346aDoorCards.lean) ties it to the program's text. -/
def laid_math_bits_deBruijn32tab {H : Type} : DataW H := .agg [.lit (.int .u8 0), .lit (.int .u8 1), .lit (.int .u8 28), .lit (.int .u8 2), .lit (.int .u8 29), .lit (.int .u8 14), .lit (.int .u8 24), .lit (.int .u8 3), .lit (.int .u8 30), .lit (.int .u8 22), .lit (.int .u8 20), .lit (.int .u8 15), .lit (.int .u8 25), .lit (.int .u8 17), .lit (.int .u8 4), .lit (.int .u8 8), .lit (.int .u8 31), .lit (.int .u8 27), .lit (.int .u8 13), .lit (.int .u8 23), .lit (.int .u8 21), .lit (.int .u8 19), .lit (.int .u8 16), .lit (.int .u8 7), .lit (.int .u8 26), .lit (.int .u8 12), .lit (.int .u8 18), .lit (.int .u8 6), .lit (.int .u8 11), .lit (.int .u8 5), .lit (.int .u8 10), .lit (.int .u8 9)]
def laid_math_bits_deBruijn64tab {H : Type} : DataW H := .agg [.lit (.int .u8 0), .lit (.int .u8 1), .lit (.int .u8 56), .lit (.int .u8 2), .lit (.int .u8 57), .lit (.int .u8 49), .lit (.int .u8 28), .lit (.int .u8 3), .lit (.int .u8 61), .lit (.int .u8 58), .lit (.int .u8 42), .lit (.int .u8 50), .lit (.int .u8 38), .lit (.int .u8 29), .lit (.int .u8 17), .lit (.int .u8 4), .lit (.int .u8 62), .lit (.int .u8 47), .lit (.int .u8 59), .lit (.int .u8 36), .lit (.int .u8 45), .lit (.int .u8 43), .lit (.int .u8 51), .lit (.int .u8 22), .lit (.int .u8 53), .lit (.int .u8 39), .lit (.int .u8 33), .lit (.int .u8 30), .lit (.int .u8 24), .lit (.int .u8 18), .lit (.int .u8 12), .lit (.int .u8 5), .lit (.int .u8 63), .lit (.int .u8 55), .lit (.int .u8 48), .lit (.int .u8 27), .lit (.int .u8 60), .lit (.int .u8 41), .lit (.int .u8 37), .lit (.int .u8 16), .lit (.int .u8 46), .lit (.int .u8 35), .lit (.int .u8 44), .lit (.int .u8 21), .lit (.int .u8 52), .lit (.int .u8 32), .lit (.int .u8 23), .lit (.int .u8 11), .lit (.int .u8 54), .lit (.int .u8 26), .lit (.int .u8 40), .lit (.int .u8 15), .lit (.int .u8 34), .lit (.int .u8 20), .lit (.int .u8 31), .lit (.int .u8 10), .lit (.int .u8 25), .lit (.int .u8 14), .lit (.int .u8 19), .lit (.int .u8 9), .lit (.int .u8 13), .lit (.int .u8 8), .lit (.int .u8 7), .lit (.int .u8 6)]
def laid_internal_strconv_uint64pow10 {H : Type} : DataW H := .agg [.lit (.int .u64 1), .lit (.int .u64 10), .lit (.int .u64 100), .lit (.int .u64 1000), .lit (.int .u64 10000), .lit (.int .u64 100000), .lit (.int .u64 1000000), .lit (.int .u64 10000000), .lit (.int .u64 100000000), .lit (.int .u64 1000000000), .lit (.int .u64 10000000000), .lit (.int .u64 100000000000), .lit (.int .u64 1000000000000), .lit (.int .u64 10000000000000), .lit (.int .u64 100000000000000), .lit (.int .u64 1000000000000000), .lit (.int .u64 10000000000000000), .lit (.int .u64 100000000000000000), .lit (.int .u64 1000000000000000000), .lit (.int .u64 10000000000000000000)]
def laid_example_com_tallyclock_tallyclock_monthDays {H : Type} : DataW H := .agg [.lit (.int .u8 31), .lit (.int .u8 28), .lit (.int .u8 31), .lit (.int .u8 30), .lit (.int .u8 31), .lit (.int .u8 30), .lit (.int .u8 31), .lit (.int .u8 31), .lit (.int .u8 30), .lit (.int .u8 31), .lit (.int .u8 30), .lit (.int .u8 31)]
def laid_example_com_tallyclock_tallyclock_ErrOverflow {H : Type} : DataW H := .iface "*errors.errorString" (.ptr (.agg [.lit (.string [116, 97, 108, 108, 121, 99, 108, 111, 99, 107, 58, 32, 116, 104, 101, 32, 110, 101, 120, 116, 32, 116, 105, 109, 101, 32, 119, 111, 117, 108, 100, 32, 112, 97, 115, 115, 32, 49, 56, 52, 52, 54, 55, 52, 52, 48, 55, 51, 55, 48, 57, 53, 53, 49, 54, 49, 53, 32, 40, 50, 94, 54, 52, 32, 45, 32, 49, 41])]))

/-- 'zzlaws_root_c1.PropParseTimeIsPlainDecimalNumeral': WHATEVER THE INPUT: true; the input reads as it did. -/
def propParseTimeIsPlainDecimalNumeralSpec : ChangeSpec := { name := "propParseTimeIsPlainDecimalNumeral", fn := fun _ => fun
  | [d1, d2] => { results := [.lit (.bool true)], args := [d1, d2] }
  | _ => none }
def propParseTimeIsPlainDecimalNumeralRow : OpenClaim := { program := "qxb6003346adoor", sum := "6b5c4d8ff812d2a34fbf4031dacc80a6ea51104b4121c0ff5a2ee91f51c547c7", func := "example.com/tallyclock/tallyclock/zzlaws_root_c1.PropParseTimeIsPlainDecimalNumeral", spec := "propParseTimeIsPlainDecimalNumeral", named := ["internal/strconv.uint64pow10", "math/bits.deBruijn32tab", "math/bits.deBruijn64tab"], apart := false, laid := [("math/bits.deBruijn32tab", laid_math_bits_deBruijn32tab), ("math/bits.deBruijn64tab", laid_math_bits_deBruijn64tab), ("internal/strconv.uint64pow10", laid_internal_strconv_uint64pow10)] }
def PropParseTimeIsPlainDecimalNumeralSaid : Prop := propParseTimeIsPlainDecimalNumeralRow.holds Tryd.pinned (OpenSpec.ofChange propParseTimeIsPlainDecimalNumeralSpec)

/-- ITS FALSE NEIGHBOUR: 'it returns false'. Refute it at one input. -/
def propParseTimeIsPlainDecimalNumeralWrong : ChangeSpec := { name := "propParseTimeIsPlainDecimalNumeral", fn := fun _ => fun
  | [d1, d2] => { results := [.lit (.bool false)], args := [d1, d2] }
  | _ => none }
def PropParseTimeIsPlainDecimalNumeralWrongFalsely : Prop := propParseTimeIsPlainDecimalNumeralRow.holds Tryd.pinned (OpenSpec.ofChange propParseTimeIsPlainDecimalNumeralWrong)

/-- 'zzlaws_root_c2.PropDaysSinceEpochCountsEachNextDate': WHATEVER THE INPUT: true; the input reads as it did. -/
def propDaysSinceEpochCountsEachNextDateSpec : ChangeSpec := { name := "propDaysSinceEpochCountsEachNextDate", vars := ["example.com/tallyclock/tallyclock.monthDays"], fn := fun _ => fun
  | [d1, d2, d3, g1] => { results := [.lit (.bool true)], args := [d1, d2, d3], vars := [g1] }
  | _ => none }
def propDaysSinceEpochCountsEachNextDateRow : OpenClaim := { program := "qxb6003346adoor", sum := "6b5c4d8ff812d2a34fbf4031dacc80a6ea51104b4121c0ff5a2ee91f51c547c7", func := "example.com/tallyclock/tallyclock/zzlaws_root_c2.PropDaysSinceEpochCountsEachNextDate", spec := "propDaysSinceEpochCountsEachNextDate", named := ["example.com/tallyclock/tallyclock.monthDays"], apart := false, laid := [("example.com/tallyclock/tallyclock.monthDays", laid_example_com_tallyclock_tallyclock_monthDays)] }
def PropDaysSinceEpochCountsEachNextDateSaid : Prop := propDaysSinceEpochCountsEachNextDateRow.holds Tryd.pinned (OpenSpec.ofChange propDaysSinceEpochCountsEachNextDateSpec)

/-- ITS FALSE NEIGHBOUR: 'it returns false'. Refute it at one input. -/
def propDaysSinceEpochCountsEachNextDateWrong : ChangeSpec := { name := "propDaysSinceEpochCountsEachNextDate", vars := ["example.com/tallyclock/tallyclock.monthDays"], fn := fun _ => fun
  | [d1, d2, d3, g1] => { results := [.lit (.bool false)], args := [d1, d2, d3], vars := [g1] }
  | _ => none }
def PropDaysSinceEpochCountsEachNextDateWrongFalsely : Prop := propDaysSinceEpochCountsEachNextDateRow.holds Tryd.pinned (OpenSpec.ofChange propDaysSinceEpochCountsEachNextDateWrong)

/-- 'zzlaws_root_c2.PropClockSequentialEqualsLamportCounter': WHATEVER THE INPUT: true; the input reads as it did. -/
def propClockSequentialEqualsLamportCounterSpec : ChangeSpec := { name := "propClockSequentialEqualsLamportCounter", vars := ["example.com/tallyclock/tallyclock.ErrOverflow"], fn := fun _ => fun
  | [d1, d2, g1] => { results := [.lit (.bool true)], args := [d1, d2], vars := [g1] }
  | _ => none }
def propClockSequentialEqualsLamportCounterRow : OpenClaim := { program := "qxb6003346adoor", sum := "6b5c4d8ff812d2a34fbf4031dacc80a6ea51104b4121c0ff5a2ee91f51c547c7", func := "example.com/tallyclock/tallyclock/zzlaws_root_c2.PropClockSequentialEqualsLamportCounter", spec := "propClockSequentialEqualsLamportCounter", inPlace := ["sync/atomic.StoreUint64", "sync/atomic.LoadUint64", "runtime.Gosched", "sync/atomic.AddUint64", "sync/atomic.CompareAndSwapUint64", "internal/reflectlite.TypeOf"], unfollowed := true, recurses := true, named := ["example.com/tallyclock/tallyclock.ErrOverflow"], ifaces := true, apart := false, laid := [("example.com/tallyclock/tallyclock.ErrOverflow", laid_example_com_tallyclock_tallyclock_ErrOverflow)] }
def PropClockSequentialEqualsLamportCounterSaid : Prop := propClockSequentialEqualsLamportCounterRow.holds Tryd.pinned (OpenSpec.ofChange propClockSequentialEqualsLamportCounterSpec)

/-- ITS FALSE NEIGHBOUR: 'it returns false'. Refute it at one input. -/
def propClockSequentialEqualsLamportCounterWrong : ChangeSpec := { name := "propClockSequentialEqualsLamportCounter", vars := ["example.com/tallyclock/tallyclock.ErrOverflow"], fn := fun _ => fun
  | [d1, d2, g1] => { results := [.lit (.bool false)], args := [d1, d2], vars := [g1] }
  | _ => none }
def PropClockSequentialEqualsLamportCounterWrongFalsely : Prop := propClockSequentialEqualsLamportCounterRow.holds Tryd.pinned (OpenSpec.ofChange propClockSequentialEqualsLamportCounterWrong)

end Rows
end Go.Proofs.Qxb6003346aDoor
