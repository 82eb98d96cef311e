/-
  No cell of these rows narrows 'for every input' (looked for: loops, veiled, ifaces, maps, wideKeys, modest, calm, conditions, laid).
  DERIVED. THE GIVEN ROWS OF THIS SEAT. 19 by the template 'for every input the law returns true; each argument reads behind the call as it read before'; 0 by the template 'total and deterministic' (their statements: YtnineoajmgneiaaGreatTotals.lean).
  GIVEN WITH THE SEED: the statements are not yours to turn. If you find one false, say at which input.
  Laid BY PROGRAM, IN A SANDBOX (cutbox-rows.mjs): the forced cells as the released guide's own fill.sh prints them over the translation 86429117fcd8718e… (all of the seat's roots in one cut). By AI agents, Wed Nov 11 2026. No macro, syntax, notation, axiom, sorry.
-/
import Derived.Test.YtnineoajmgneiaaGreatChecked
import GoSem.Claim
import GoSem.ClaimJoined
import GoSem.ClaimMapViews
import Derived.JoinedTies
import Derived.KernelRfl
namespace Go.Proofs.YtnineoajmgneiaaGreat
/- THE CELL 'sum', in the pinned program and in every row, IS THE sha256 OF THE DUMP (.gsa) THAT YtnineoajmgneiaaGreatProg.lean LOADS. Nothing in Lean hashes anything: it is a label: what it is worth is what the hold of that sum in a sandbox is worth. -/
noncomputable def Tryz.pinned : Pinned := { name := "ytnineoajmgneiaagreat", sum := "86429117fcd8718e16f05d0e4e9b8ebf151946618804b3f6707168744c976c4e", checked := Tryz.checked }
namespace Rows
def none {H : Type} : Left H := { results := [], args := [] }

/-- 'laws.FnTargetFiles': WHATEVER THE INPUT: true; the input reads as it did. -/
def fnTargetFilesSpec : ChangeSpec := { name := "fnTargetFiles", fn := fun _ => fun
  | [d1, d2] => { results := [.lit (.bool true)], args := [d1, d2] }
  | _ => none }
def fnTargetFilesRow : OpenClaim := { program := "ytnineoajmgneiaagreat", sum := "86429117fcd8718e16f05d0e4e9b8ebf151946618804b3f6707168744c976c4e", func := "loop.example/pub-levelsandmarks/laws.FnTargetFiles", spec := "fnTargetFiles", inPlace := ["internal/reflectlite.ValueOf", "internal/reflectlite.Swapper", "(internal/reflectlite.Value).Len", "internal/bytealg.Compare", "math.archCeil", "math.archFloor", "math.Float64bits", "math.Float64frombits", "math.archTrunc"], unfollowed := true, recurses := true, apart := false }
def FnTargetFilesSaid : Prop := fnTargetFilesRow.holds Tryz.pinned (OpenSpec.ofChange fnTargetFilesSpec)

/-- ITS FALSE NEIGHBOUR: 'it returns false'. Refute it at one input. -/
def fnTargetFilesWrong : ChangeSpec := { name := "fnTargetFiles", fn := fun _ => fun
  | [d1, d2] => { results := [.lit (.bool false)], args := [d1, d2] }
  | _ => none }
def FnTargetFilesWrongFalsely : Prop := fnTargetFilesRow.holds Tryz.pinned (OpenSpec.ofChange fnTargetFilesWrong)

/-- 'laws.FnTargetSizes': WHATEVER THE INPUT: true; the input reads as it did. -/
def fnTargetSizesSpec : ChangeSpec := { name := "fnTargetSizes", fn := fun _ => fun
  | [d1, d2] => { results := [.lit (.bool true)], args := [d1, d2] }
  | _ => none }
def fnTargetSizesRow : OpenClaim := { program := "ytnineoajmgneiaagreat", sum := "86429117fcd8718e16f05d0e4e9b8ebf151946618804b3f6707168744c976c4e", func := "loop.example/pub-levelsandmarks/laws.FnTargetSizes", spec := "fnTargetSizes", inPlace := ["internal/reflectlite.ValueOf", "internal/reflectlite.Swapper", "(internal/reflectlite.Value).Len", "internal/bytealg.Compare", "math.archCeil", "math.archFloor", "math.Float64bits", "math.Float64frombits", "math.archTrunc"], unfollowed := true, recurses := true, apart := false }
def FnTargetSizesSaid : Prop := fnTargetSizesRow.holds Tryz.pinned (OpenSpec.ofChange fnTargetSizesSpec)

/-- ITS FALSE NEIGHBOUR: 'it returns false'. Refute it at one input. -/
def fnTargetSizesWrong : ChangeSpec := { name := "fnTargetSizes", fn := fun _ => fun
  | [d1, d2] => { results := [.lit (.bool false)], args := [d1, d2] }
  | _ => none }
def FnTargetSizesWrongFalsely : Prop := fnTargetSizesRow.holds Tryz.pinned (OpenSpec.ofChange fnTargetSizesWrong)

/-- 'laws.FnTargetTables': WHATEVER THE INPUT: true; the input reads as it did. -/
def fnTargetTablesSpec : ChangeSpec := { name := "fnTargetTables", fn := fun _ => fun
  | [d1, d2, d3] => { results := [.lit (.bool true)], args := [d1, d2, d3] }
  | _ => none }
def fnTargetTablesRow : OpenClaim := { program := "ytnineoajmgneiaagreat", sum := "86429117fcd8718e16f05d0e4e9b8ebf151946618804b3f6707168744c976c4e", func := "loop.example/pub-levelsandmarks/laws.FnTargetTables", spec := "fnTargetTables", inPlace := ["internal/reflectlite.ValueOf", "internal/reflectlite.Swapper", "(internal/reflectlite.Value).Len", "internal/bytealg.Compare", "math.archCeil", "math.archFloor", "math.Float64bits", "math.Float64frombits", "math.archTrunc"], unfollowed := true, recurses := true, apart := false }
def FnTargetTablesSaid : Prop := fnTargetTablesRow.holds Tryz.pinned (OpenSpec.ofChange fnTargetTablesSpec)

/-- ITS FALSE NEIGHBOUR: 'it returns false'. Refute it at one input. -/
def fnTargetTablesWrong : ChangeSpec := { name := "fnTargetTables", fn := fun _ => fun
  | [d1, d2, d3] => { results := [.lit (.bool false)], args := [d1, d2, d3] }
  | _ => none }
def FnTargetTablesWrongFalsely : Prop := fnTargetTablesRow.holds Tryz.pinned (OpenSpec.ofChange fnTargetTablesWrong)

/-- 'laws.FnFillAgain': WHATEVER THE INPUT: true; the input reads as it did. -/
def fnFillAgainSpec : ChangeSpec := { name := "fnFillAgain", fn := fun _ => fun
  | [d1, d2, d3, d4] => { results := [.lit (.bool true)], args := [d1, d2, d3, d4] }
  | _ => none }
def fnFillAgainRow : OpenClaim := { program := "ytnineoajmgneiaagreat", sum := "86429117fcd8718e16f05d0e4e9b8ebf151946618804b3f6707168744c976c4e", func := "loop.example/pub-levelsandmarks/laws.FnFillAgain", spec := "fnFillAgain", inPlace := ["internal/reflectlite.ValueOf", "internal/reflectlite.Swapper", "(internal/reflectlite.Value).Len", "internal/bytealg.Compare", "math.archCeil", "math.archFloor", "math.Float64bits", "math.Float64frombits", "math.archTrunc"], unfollowed := true, recurses := true, apart := false }
def FnFillAgainSaid : Prop := fnFillAgainRow.holds Tryz.pinned (OpenSpec.ofChange fnFillAgainSpec)

/-- ITS FALSE NEIGHBOUR: 'it returns false'. Refute it at one input. -/
def fnFillAgainWrong : ChangeSpec := { name := "fnFillAgain", fn := fun _ => fun
  | [d1, d2, d3, d4] => { results := [.lit (.bool false)], args := [d1, d2, d3, d4] }
  | _ => none }
def FnFillAgainWrongFalsely : Prop := fnFillAgainRow.holds Tryz.pinned (OpenSpec.ofChange fnFillAgainWrong)

/-- 'laws.FnFillApart': WHATEVER THE INPUT: true; the input reads as it did. -/
def fnFillApartSpec : ChangeSpec := { name := "fnFillApart", fn := fun _ => fun
  | [d1, d2, d3] => { results := [.lit (.bool true)], args := [d1, d2, d3] }
  | _ => none }
def fnFillApartRow : OpenClaim := { program := "ytnineoajmgneiaagreat", sum := "86429117fcd8718e16f05d0e4e9b8ebf151946618804b3f6707168744c976c4e", func := "loop.example/pub-levelsandmarks/laws.FnFillApart", spec := "fnFillApart", inPlace := ["internal/reflectlite.ValueOf", "internal/reflectlite.Swapper", "(internal/reflectlite.Value).Len", "internal/bytealg.Compare", "math.archCeil", "math.archFloor", "math.Float64bits", "math.Float64frombits", "math.archTrunc"], unfollowed := true, recurses := true, apart := false }
def FnFillApartSaid : Prop := fnFillApartRow.holds Tryz.pinned (OpenSpec.ofChange fnFillApartSpec)

/-- ITS FALSE NEIGHBOUR: 'it returns false'. Refute it at one input. -/
def fnFillApartWrong : ChangeSpec := { name := "fnFillApart", fn := fun _ => fun
  | [d1, d2, d3] => { results := [.lit (.bool false)], args := [d1, d2, d3] }
  | _ => none }
def FnFillApartWrongFalsely : Prop := fnFillApartRow.holds Tryz.pinned (OpenSpec.ofChange fnFillApartWrong)

/-- 'laws.FnFillDone': WHATEVER THE INPUT: true; the input reads as it did. -/
def fnFillDoneSpec : ChangeSpec := { name := "fnFillDone", fn := fun _ => fun
  | [d1, d2, d3] => { results := [.lit (.bool true)], args := [d1, d2, d3] }
  | _ => none }
def fnFillDoneRow : OpenClaim := { program := "ytnineoajmgneiaagreat", sum := "86429117fcd8718e16f05d0e4e9b8ebf151946618804b3f6707168744c976c4e", func := "loop.example/pub-levelsandmarks/laws.FnFillDone", spec := "fnFillDone", inPlace := ["internal/reflectlite.ValueOf", "internal/reflectlite.Swapper", "(internal/reflectlite.Value).Len", "internal/bytealg.Compare", "math.archCeil", "math.archFloor", "math.Float64bits", "math.Float64frombits", "math.archTrunc"], unfollowed := true, recurses := true, apart := false }
def FnFillDoneSaid : Prop := fnFillDoneRow.holds Tryz.pinned (OpenSpec.ofChange fnFillDoneSpec)

/-- ITS FALSE NEIGHBOUR: 'it returns false'. Refute it at one input. -/
def fnFillDoneWrong : ChangeSpec := { name := "fnFillDone", fn := fun _ => fun
  | [d1, d2, d3] => { results := [.lit (.bool false)], args := [d1, d2, d3] }
  | _ => none }
def FnFillDoneWrongFalsely : Prop := fnFillDoneRow.holds Tryz.pinned (OpenSpec.ofChange fnFillDoneWrong)

/-- 'laws.FnFillEmpty': WHATEVER THE INPUT: true; the input reads as it did. -/
def fnFillEmptySpec : ChangeSpec := { name := "fnFillEmpty", fn := fun _ => fun
  | [d1, d2, d3, d4] => { results := [.lit (.bool true)], args := [d1, d2, d3, d4] }
  | _ => none }
def fnFillEmptyRow : OpenClaim := { program := "ytnineoajmgneiaagreat", sum := "86429117fcd8718e16f05d0e4e9b8ebf151946618804b3f6707168744c976c4e", func := "loop.example/pub-levelsandmarks/laws.FnFillEmpty", spec := "fnFillEmpty", inPlace := ["internal/reflectlite.ValueOf", "internal/reflectlite.Swapper", "(internal/reflectlite.Value).Len", "internal/bytealg.Compare", "math.archCeil", "math.archFloor", "math.Float64bits", "math.Float64frombits", "math.archTrunc"], unfollowed := true, recurses := true, apart := false }
def FnFillEmptySaid : Prop := fnFillEmptyRow.holds Tryz.pinned (OpenSpec.ofChange fnFillEmptySpec)

/-- ITS FALSE NEIGHBOUR: 'it returns false'. Refute it at one input. -/
def fnFillEmptyWrong : ChangeSpec := { name := "fnFillEmpty", fn := fun _ => fun
  | [d1, d2, d3, d4] => { results := [.lit (.bool false)], args := [d1, d2, d3, d4] }
  | _ => none }
def FnFillEmptyWrongFalsely : Prop := fnFillEmptyRow.holds Tryz.pinned (OpenSpec.ofChange fnFillEmptyWrong)

/-- 'laws.FnFillFree': WHATEVER THE INPUT: true; the input reads as it did. -/
def fnFillFreeSpec : ChangeSpec := { name := "fnFillFree", fn := fun _ => fun
  | [d1, d2, d3] => { results := [.lit (.bool true)], args := [d1, d2, d3] }
  | _ => none }
def fnFillFreeRow : OpenClaim := { program := "ytnineoajmgneiaagreat", sum := "86429117fcd8718e16f05d0e4e9b8ebf151946618804b3f6707168744c976c4e", func := "loop.example/pub-levelsandmarks/laws.FnFillFree", spec := "fnFillFree", inPlace := ["internal/reflectlite.ValueOf", "internal/reflectlite.Swapper", "(internal/reflectlite.Value).Len", "internal/bytealg.Compare", "math.archCeil", "math.archFloor", "math.Float64bits", "math.Float64frombits", "math.archTrunc"], unfollowed := true, recurses := true, apart := false }
def FnFillFreeSaid : Prop := fnFillFreeRow.holds Tryz.pinned (OpenSpec.ofChange fnFillFreeSpec)

/-- ITS FALSE NEIGHBOUR: 'it returns false'. Refute it at one input. -/
def fnFillFreeWrong : ChangeSpec := { name := "fnFillFree", fn := fun _ => fun
  | [d1, d2, d3] => { results := [.lit (.bool false)], args := [d1, d2, d3] }
  | _ => none }
def FnFillFreeWrongFalsely : Prop := fnFillFreeRow.holds Tryz.pinned (OpenSpec.ofChange fnFillFreeWrong)

/-- 'laws.FnFillMeets': WHATEVER THE INPUT: true; the input reads as it did. -/
def fnFillMeetsSpec : ChangeSpec := { name := "fnFillMeets", fn := fun _ => fun
  | [d1, d2, d3] => { results := [.lit (.bool true)], args := [d1, d2, d3] }
  | _ => none }
def fnFillMeetsRow : OpenClaim := { program := "ytnineoajmgneiaagreat", sum := "86429117fcd8718e16f05d0e4e9b8ebf151946618804b3f6707168744c976c4e", func := "loop.example/pub-levelsandmarks/laws.FnFillMeets", spec := "fnFillMeets", inPlace := ["internal/reflectlite.ValueOf", "internal/reflectlite.Swapper", "(internal/reflectlite.Value).Len", "internal/bytealg.Compare", "math.archCeil", "math.archFloor", "math.Float64bits", "math.Float64frombits", "math.archTrunc"], unfollowed := true, recurses := true, apart := false }
def FnFillMeetsSaid : Prop := fnFillMeetsRow.holds Tryz.pinned (OpenSpec.ofChange fnFillMeetsSpec)

/-- ITS FALSE NEIGHBOUR: 'it returns false'. Refute it at one input. -/
def fnFillMeetsWrong : ChangeSpec := { name := "fnFillMeets", fn := fun _ => fun
  | [d1, d2, d3] => { results := [.lit (.bool false)], args := [d1, d2, d3] }
  | _ => none }
def FnFillMeetsWrongFalsely : Prop := fnFillMeetsRow.holds Tryz.pinned (OpenSpec.ofChange fnFillMeetsWrong)

/-- 'laws.FnFillNext': WHATEVER THE INPUT: true; the input reads as it did. -/
def fnFillNextSpec : ChangeSpec := { name := "fnFillNext", fn := fun _ => fun
  | [d1, d2, d3] => { results := [.lit (.bool true)], args := [d1, d2, d3] }
  | _ => none }
def fnFillNextRow : OpenClaim := { program := "ytnineoajmgneiaagreat", sum := "86429117fcd8718e16f05d0e4e9b8ebf151946618804b3f6707168744c976c4e", func := "loop.example/pub-levelsandmarks/laws.FnFillNext", spec := "fnFillNext", inPlace := ["internal/reflectlite.ValueOf", "internal/reflectlite.Swapper", "(internal/reflectlite.Value).Len", "internal/bytealg.Compare", "math.archCeil", "math.archFloor", "math.Float64bits", "math.Float64frombits", "math.archTrunc"], unfollowed := true, recurses := true, apart := false }
def FnFillNextSaid : Prop := fnFillNextRow.holds Tryz.pinned (OpenSpec.ofChange fnFillNextSpec)

/-- ITS FALSE NEIGHBOUR: 'it returns false'. Refute it at one input. -/
def fnFillNextWrong : ChangeSpec := { name := "fnFillNext", fn := fun _ => fun
  | [d1, d2, d3] => { results := [.lit (.bool false)], args := [d1, d2, d3] }
  | _ => none }
def FnFillNextWrongFalsely : Prop := fnFillNextRow.holds Tryz.pinned (OpenSpec.ofChange fnFillNextWrong)

/-- 'laws.FnFillNumbers': WHATEVER THE INPUT: true; the input reads as it did. -/
def fnFillNumbersSpec : ChangeSpec := { name := "fnFillNumbers", fn := fun _ => fun
  | [d1, d2, d3] => { results := [.lit (.bool true)], args := [d1, d2, d3] }
  | _ => none }
def fnFillNumbersRow : OpenClaim := { program := "ytnineoajmgneiaagreat", sum := "86429117fcd8718e16f05d0e4e9b8ebf151946618804b3f6707168744c976c4e", func := "loop.example/pub-levelsandmarks/laws.FnFillNumbers", spec := "fnFillNumbers", inPlace := ["internal/reflectlite.ValueOf", "internal/reflectlite.Swapper", "(internal/reflectlite.Value).Len", "internal/bytealg.Compare", "math.archCeil", "math.archFloor", "math.Float64bits", "math.Float64frombits", "math.archTrunc"], unfollowed := true, recurses := true, apart := false }
def FnFillNumbersSaid : Prop := fnFillNumbersRow.holds Tryz.pinned (OpenSpec.ofChange fnFillNumbersSpec)

/-- ITS FALSE NEIGHBOUR: 'it returns false'. Refute it at one input. -/
def fnFillNumbersWrong : ChangeSpec := { name := "fnFillNumbers", fn := fun _ => fun
  | [d1, d2, d3] => { results := [.lit (.bool false)], args := [d1, d2, d3] }
  | _ => none }
def FnFillNumbersWrongFalsely : Prop := fnFillNumbersRow.holds Tryz.pinned (OpenSpec.ofChange fnFillNumbersWrong)

/-- 'laws.FnFillOne': WHATEVER THE INPUT: true; the input reads as it did. -/
def fnFillOneSpec : ChangeSpec := { name := "fnFillOne", fn := fun _ => fun
  | [d1, d2, d3, d4] => { results := [.lit (.bool true)], args := [d1, d2, d3, d4] }
  | _ => none }
def fnFillOneRow : OpenClaim := { program := "ytnineoajmgneiaagreat", sum := "86429117fcd8718e16f05d0e4e9b8ebf151946618804b3f6707168744c976c4e", func := "loop.example/pub-levelsandmarks/laws.FnFillOne", spec := "fnFillOne", inPlace := ["internal/reflectlite.ValueOf", "internal/reflectlite.Swapper", "(internal/reflectlite.Value).Len", "internal/bytealg.Compare", "math.archCeil", "math.archFloor", "math.Float64bits", "math.Float64frombits", "math.archTrunc"], unfollowed := true, recurses := true, apart := false }
def FnFillOneSaid : Prop := fnFillOneRow.holds Tryz.pinned (OpenSpec.ofChange fnFillOneSpec)

/-- ITS FALSE NEIGHBOUR: 'it returns false'. Refute it at one input. -/
def fnFillOneWrong : ChangeSpec := { name := "fnFillOne", fn := fun _ => fun
  | [d1, d2, d3, d4] => { results := [.lit (.bool false)], args := [d1, d2, d3, d4] }
  | _ => none }
def FnFillOneWrongFalsely : Prop := fnFillOneRow.holds Tryz.pinned (OpenSpec.ofChange fnFillOneWrong)

/-- 'laws.FnFillOut': WHATEVER THE INPUT: true; the input reads as it did. -/
def fnFillOutSpec : ChangeSpec := { name := "fnFillOut", fn := fun _ => fun
  | [d1, d2, d3, d4] => { results := [.lit (.bool true)], args := [d1, d2, d3, d4] }
  | _ => none }
def fnFillOutRow : OpenClaim := { program := "ytnineoajmgneiaagreat", sum := "86429117fcd8718e16f05d0e4e9b8ebf151946618804b3f6707168744c976c4e", func := "loop.example/pub-levelsandmarks/laws.FnFillOut", spec := "fnFillOut", inPlace := ["internal/reflectlite.ValueOf", "internal/reflectlite.Swapper", "(internal/reflectlite.Value).Len", "internal/bytealg.Compare", "math.archCeil", "math.archFloor", "math.Float64bits", "math.Float64frombits", "math.archTrunc"], unfollowed := true, recurses := true, apart := false }
def FnFillOutSaid : Prop := fnFillOutRow.holds Tryz.pinned (OpenSpec.ofChange fnFillOutSpec)

/-- ITS FALSE NEIGHBOUR: 'it returns false'. Refute it at one input. -/
def fnFillOutWrong : ChangeSpec := { name := "fnFillOut", fn := fun _ => fun
  | [d1, d2, d3, d4] => { results := [.lit (.bool false)], args := [d1, d2, d3, d4] }
  | _ => none }
def FnFillOutWrongFalsely : Prop := fnFillOutRow.holds Tryz.pinned (OpenSpec.ofChange fnFillOutWrong)

/-- 'laws.FnFillRuns': WHATEVER THE INPUT: true; the input reads as it did. -/
def fnFillRunsSpec : ChangeSpec := { name := "fnFillRuns", fn := fun _ => fun
  | [d1, d2, d3] => { results := [.lit (.bool true)], args := [d1, d2, d3] }
  | _ => none }
def fnFillRunsRow : OpenClaim := { program := "ytnineoajmgneiaagreat", sum := "86429117fcd8718e16f05d0e4e9b8ebf151946618804b3f6707168744c976c4e", func := "loop.example/pub-levelsandmarks/laws.FnFillRuns", spec := "fnFillRuns", inPlace := ["internal/reflectlite.ValueOf", "internal/reflectlite.Swapper", "(internal/reflectlite.Value).Len", "internal/bytealg.Compare", "math.archCeil", "math.archFloor", "math.Float64bits", "math.Float64frombits", "math.archTrunc"], unfollowed := true, recurses := true, apart := false }
def FnFillRunsSaid : Prop := fnFillRunsRow.holds Tryz.pinned (OpenSpec.ofChange fnFillRunsSpec)

/-- ITS FALSE NEIGHBOUR: 'it returns false'. Refute it at one input. -/
def fnFillRunsWrong : ChangeSpec := { name := "fnFillRuns", fn := fun _ => fun
  | [d1, d2, d3] => { results := [.lit (.bool false)], args := [d1, d2, d3] }
  | _ => none }
def FnFillRunsWrongFalsely : Prop := fnFillRunsRow.holds Tryz.pinned (OpenSpec.ofChange fnFillRunsWrong)

/-- 'laws.FnFillTables': WHATEVER THE INPUT: true; the input reads as it did. -/
def fnFillTablesSpec : ChangeSpec := { name := "fnFillTables", fn := fun _ => fun
  | [d1, d2, d3] => { results := [.lit (.bool true)], args := [d1, d2, d3] }
  | _ => none }
def fnFillTablesRow : OpenClaim := { program := "ytnineoajmgneiaagreat", sum := "86429117fcd8718e16f05d0e4e9b8ebf151946618804b3f6707168744c976c4e", func := "loop.example/pub-levelsandmarks/laws.FnFillTables", spec := "fnFillTables", inPlace := ["internal/reflectlite.ValueOf", "internal/reflectlite.Swapper", "(internal/reflectlite.Value).Len", "internal/bytealg.Compare", "math.archCeil", "math.archFloor", "math.Float64bits", "math.Float64frombits", "math.archTrunc"], unfollowed := true, recurses := true, apart := false }
def FnFillTablesSaid : Prop := fnFillTablesRow.holds Tryz.pinned (OpenSpec.ofChange fnFillTablesSpec)

/-- ITS FALSE NEIGHBOUR: 'it returns false'. Refute it at one input. -/
def fnFillTablesWrong : ChangeSpec := { name := "fnFillTables", fn := fun _ => fun
  | [d1, d2, d3] => { results := [.lit (.bool false)], args := [d1, d2, d3] }
  | _ => none }
def FnFillTablesWrongFalsely : Prop := fnFillTablesRow.holds Tryz.pinned (OpenSpec.ofChange fnFillTablesWrong)

/-- 'laws.FnPickLevels': WHATEVER THE INPUT: true; the input reads as it did. -/
def fnPickLevelsSpec : ChangeSpec := { name := "fnPickLevels", fn := fun _ => fun
  | [d1, d2] => { results := [.lit (.bool true)], args := [d1, d2] }
  | _ => none }
def fnPickLevelsRow : OpenClaim := { program := "ytnineoajmgneiaagreat", sum := "86429117fcd8718e16f05d0e4e9b8ebf151946618804b3f6707168744c976c4e", func := "loop.example/pub-levelsandmarks/laws.FnPickLevels", spec := "fnPickLevels", inPlace := ["internal/reflectlite.ValueOf", "internal/reflectlite.Swapper", "(internal/reflectlite.Value).Len", "internal/bytealg.Compare", "math.archCeil", "math.archFloor", "math.Float64bits", "math.Float64frombits", "math.archTrunc"], unfollowed := true, recurses := true, apart := false }
def FnPickLevelsSaid : Prop := fnPickLevelsRow.holds Tryz.pinned (OpenSpec.ofChange fnPickLevelsSpec)

/-- ITS FALSE NEIGHBOUR: 'it returns false'. Refute it at one input. -/
def fnPickLevelsWrong : ChangeSpec := { name := "fnPickLevels", fn := fun _ => fun
  | [d1, d2] => { results := [.lit (.bool false)], args := [d1, d2] }
  | _ => none }
def FnPickLevelsWrongFalsely : Prop := fnPickLevelsRow.holds Tryz.pinned (OpenSpec.ofChange fnPickLevelsWrong)

/-- 'laws.FnPickOrder': WHATEVER THE INPUT: true; the input reads as it did. -/
def fnPickOrderSpec : ChangeSpec := { name := "fnPickOrder", fn := fun _ => fun
  | [d1, d2] => { results := [.lit (.bool true)], args := [d1, d2] }
  | _ => none }
def fnPickOrderRow : OpenClaim := { program := "ytnineoajmgneiaagreat", sum := "86429117fcd8718e16f05d0e4e9b8ebf151946618804b3f6707168744c976c4e", func := "loop.example/pub-levelsandmarks/laws.FnPickOrder", spec := "fnPickOrder", inPlace := ["internal/reflectlite.ValueOf", "internal/reflectlite.Swapper", "(internal/reflectlite.Value).Len", "internal/bytealg.Compare", "math.archCeil", "math.archFloor", "math.Float64bits", "math.Float64frombits", "math.archTrunc"], unfollowed := true, recurses := true, apart := false }
def FnPickOrderSaid : Prop := fnPickOrderRow.holds Tryz.pinned (OpenSpec.ofChange fnPickOrderSpec)

/-- ITS FALSE NEIGHBOUR: 'it returns false'. Refute it at one input. -/
def fnPickOrderWrong : ChangeSpec := { name := "fnPickOrder", fn := fun _ => fun
  | [d1, d2] => { results := [.lit (.bool false)], args := [d1, d2] }
  | _ => none }
def FnPickOrderWrongFalsely : Prop := fnPickOrderRow.holds Tryz.pinned (OpenSpec.ofChange fnPickOrderWrong)

/-- 'laws.FnPickZero': WHATEVER THE INPUT: true; the input reads as it did. -/
def fnPickZeroSpec : ChangeSpec := { name := "fnPickZero", fn := fun _ => fun
  | [d1, d2] => { results := [.lit (.bool true)], args := [d1, d2] }
  | _ => none }
def fnPickZeroRow : OpenClaim := { program := "ytnineoajmgneiaagreat", sum := "86429117fcd8718e16f05d0e4e9b8ebf151946618804b3f6707168744c976c4e", func := "loop.example/pub-levelsandmarks/laws.FnPickZero", spec := "fnPickZero", inPlace := ["internal/reflectlite.ValueOf", "internal/reflectlite.Swapper", "(internal/reflectlite.Value).Len", "internal/bytealg.Compare", "math.archCeil", "math.archFloor", "math.Float64bits", "math.Float64frombits", "math.archTrunc"], unfollowed := true, recurses := true, apart := false }
def FnPickZeroSaid : Prop := fnPickZeroRow.holds Tryz.pinned (OpenSpec.ofChange fnPickZeroSpec)

/-- ITS FALSE NEIGHBOUR: 'it returns false'. Refute it at one input. -/
def fnPickZeroWrong : ChangeSpec := { name := "fnPickZero", fn := fun _ => fun
  | [d1, d2] => { results := [.lit (.bool false)], args := [d1, d2] }
  | _ => none }
def FnPickZeroWrongFalsely : Prop := fnPickZeroRow.holds Tryz.pinned (OpenSpec.ofChange fnPickZeroWrong)

/-- 'laws.FnTargetBase': WHATEVER THE INPUT: true; the input reads as it did. -/
def fnTargetBaseSpec : ChangeSpec := { name := "fnTargetBase", fn := fun _ => fun
  | [d1, d2] => { results := [.lit (.bool true)], args := [d1, d2] }
  | _ => none }
def fnTargetBaseRow : OpenClaim := { program := "ytnineoajmgneiaagreat", sum := "86429117fcd8718e16f05d0e4e9b8ebf151946618804b3f6707168744c976c4e", func := "loop.example/pub-levelsandmarks/laws.FnTargetBase", spec := "fnTargetBase", inPlace := ["internal/reflectlite.ValueOf", "internal/reflectlite.Swapper", "(internal/reflectlite.Value).Len", "internal/bytealg.Compare", "math.archCeil", "math.archFloor", "math.Float64bits", "math.Float64frombits", "math.archTrunc"], unfollowed := true, recurses := true, apart := false }
def FnTargetBaseSaid : Prop := fnTargetBaseRow.holds Tryz.pinned (OpenSpec.ofChange fnTargetBaseSpec)

/-- ITS FALSE NEIGHBOUR: 'it returns false'. Refute it at one input. -/
def fnTargetBaseWrong : ChangeSpec := { name := "fnTargetBase", fn := fun _ => fun
  | [d1, d2] => { results := [.lit (.bool false)], args := [d1, d2] }
  | _ => none }
def FnTargetBaseWrongFalsely : Prop := fnTargetBaseRow.holds Tryz.pinned (OpenSpec.ofChange fnTargetBaseWrong)

/- THE SECOND FORM. 'bulk': how many values and letters a reading holds, each counted each time it is reached (what is shared counts as often as it is met; a slice's spare places count too). A statement '..UptoSaid' is the law's where the arguments, and the package variables that the reading takes, are together of bulk at most 1048576: NARROWER than '..Said'. Prove '..Said' where nothing that the law and all that it calls make is longer than what came in: it says more and counts as full. Else prove '..UptoSaid'. A law counts once. -/
mutual
def uptoBulk {H : Type} : DataW H → Nat
  | .lit (.string bytes) => bytes.length + 1
  | .lit _ => 1
  | .nil => 1
  | .ptr d => uptoBulk d + 1
  | .slice elems spare => uptoBulkAll elems + uptoBulkAll spare + 1
  | .agg parts => uptoBulkAll parts + 1
  | .iface _ d => uptoBulk d + 1
  | .map entries => uptoBulkEntries entries + 1
  | .held _ => 1
def uptoBulkAll {H : Type} : List (DataW H) → Nat
  | [] => 0
  | d :: r => uptoBulk d + uptoBulkAll r
def uptoBulkEntries {H : Type} : List (Lit × DataW H) → Nat
  | [] => 0
  | x :: r => uptoBulkEntry x + uptoBulkEntries r
def uptoBulkEntry {H : Type} : Lit × DataW H → Nat
  | (.string bytes, d) => bytes.length + uptoBulk d + 1
  | (_, d) => uptoBulk d + 1
 end
def uptoSmall : (H : Type) → List (DataW H) → Bool := fun _ ds => decide (uptoBulkAll ds ≤ 1048576)
def OpenSpec.upto (s : _root_.Go.ChangeSpec) : _root_.Go.OpenSpec := { _root_.Go.OpenSpec.ofChange s with cond := some uptoSmall }

/-- 'laws.FnTargetFiles', WHERE WHAT IT READS IS OF BULK AT MOST 1048576: true; the input reads as it did. -/
def fnTargetFilesUptoRow : OpenClaim := { program := "ytnineoajmgneiaagreat", sum := "86429117fcd8718e16f05d0e4e9b8ebf151946618804b3f6707168744c976c4e", func := "loop.example/pub-levelsandmarks/laws.FnTargetFiles", spec := "fnTargetFiles", inPlace := ["internal/reflectlite.ValueOf", "internal/reflectlite.Swapper", "(internal/reflectlite.Value).Len", "internal/bytealg.Compare", "math.archCeil", "math.archFloor", "math.Float64bits", "math.Float64frombits", "math.archTrunc"], unfollowed := true, recurses := true, apart := false, narrowed := true }
def FnTargetFilesUptoSaid : Prop := fnTargetFilesUptoRow.holds Tryz.pinned (OpenSpec.upto fnTargetFilesSpec)

/-- 'laws.FnTargetSizes', WHERE WHAT IT READS IS OF BULK AT MOST 1048576: true; the input reads as it did. -/
def fnTargetSizesUptoRow : OpenClaim := { program := "ytnineoajmgneiaagreat", sum := "86429117fcd8718e16f05d0e4e9b8ebf151946618804b3f6707168744c976c4e", func := "loop.example/pub-levelsandmarks/laws.FnTargetSizes", spec := "fnTargetSizes", inPlace := ["internal/reflectlite.ValueOf", "internal/reflectlite.Swapper", "(internal/reflectlite.Value).Len", "internal/bytealg.Compare", "math.archCeil", "math.archFloor", "math.Float64bits", "math.Float64frombits", "math.archTrunc"], unfollowed := true, recurses := true, apart := false, narrowed := true }
def FnTargetSizesUptoSaid : Prop := fnTargetSizesUptoRow.holds Tryz.pinned (OpenSpec.upto fnTargetSizesSpec)

/-- 'laws.FnTargetTables', WHERE WHAT IT READS IS OF BULK AT MOST 1048576: true; the input reads as it did. -/
def fnTargetTablesUptoRow : OpenClaim := { program := "ytnineoajmgneiaagreat", sum := "86429117fcd8718e16f05d0e4e9b8ebf151946618804b3f6707168744c976c4e", func := "loop.example/pub-levelsandmarks/laws.FnTargetTables", spec := "fnTargetTables", inPlace := ["internal/reflectlite.ValueOf", "internal/reflectlite.Swapper", "(internal/reflectlite.Value).Len", "internal/bytealg.Compare", "math.archCeil", "math.archFloor", "math.Float64bits", "math.Float64frombits", "math.archTrunc"], unfollowed := true, recurses := true, apart := false, narrowed := true }
def FnTargetTablesUptoSaid : Prop := fnTargetTablesUptoRow.holds Tryz.pinned (OpenSpec.upto fnTargetTablesSpec)

/-- 'laws.FnFillAgain', WHERE WHAT IT READS IS OF BULK AT MOST 1048576: true; the input reads as it did. -/
def fnFillAgainUptoRow : OpenClaim := { program := "ytnineoajmgneiaagreat", sum := "86429117fcd8718e16f05d0e4e9b8ebf151946618804b3f6707168744c976c4e", func := "loop.example/pub-levelsandmarks/laws.FnFillAgain", spec := "fnFillAgain", inPlace := ["internal/reflectlite.ValueOf", "internal/reflectlite.Swapper", "(internal/reflectlite.Value).Len", "internal/bytealg.Compare", "math.archCeil", "math.archFloor", "math.Float64bits", "math.Float64frombits", "math.archTrunc"], unfollowed := true, recurses := true, apart := false, narrowed := true }
def FnFillAgainUptoSaid : Prop := fnFillAgainUptoRow.holds Tryz.pinned (OpenSpec.upto fnFillAgainSpec)

/-- 'laws.FnFillApart', WHERE WHAT IT READS IS OF BULK AT MOST 1048576: true; the input reads as it did. -/
def fnFillApartUptoRow : OpenClaim := { program := "ytnineoajmgneiaagreat", sum := "86429117fcd8718e16f05d0e4e9b8ebf151946618804b3f6707168744c976c4e", func := "loop.example/pub-levelsandmarks/laws.FnFillApart", spec := "fnFillApart", inPlace := ["internal/reflectlite.ValueOf", "internal/reflectlite.Swapper", "(internal/reflectlite.Value).Len", "internal/bytealg.Compare", "math.archCeil", "math.archFloor", "math.Float64bits", "math.Float64frombits", "math.archTrunc"], unfollowed := true, recurses := true, apart := false, narrowed := true }
def FnFillApartUptoSaid : Prop := fnFillApartUptoRow.holds Tryz.pinned (OpenSpec.upto fnFillApartSpec)

/-- 'laws.FnFillDone', WHERE WHAT IT READS IS OF BULK AT MOST 1048576: true; the input reads as it did. -/
def fnFillDoneUptoRow : OpenClaim := { program := "ytnineoajmgneiaagreat", sum := "86429117fcd8718e16f05d0e4e9b8ebf151946618804b3f6707168744c976c4e", func := "loop.example/pub-levelsandmarks/laws.FnFillDone", spec := "fnFillDone", inPlace := ["internal/reflectlite.ValueOf", "internal/reflectlite.Swapper", "(internal/reflectlite.Value).Len", "internal/bytealg.Compare", "math.archCeil", "math.archFloor", "math.Float64bits", "math.Float64frombits", "math.archTrunc"], unfollowed := true, recurses := true, apart := false, narrowed := true }
def FnFillDoneUptoSaid : Prop := fnFillDoneUptoRow.holds Tryz.pinned (OpenSpec.upto fnFillDoneSpec)

/-- 'laws.FnFillEmpty', WHERE WHAT IT READS IS OF BULK AT MOST 1048576: true; the input reads as it did. -/
def fnFillEmptyUptoRow : OpenClaim := { program := "ytnineoajmgneiaagreat", sum := "86429117fcd8718e16f05d0e4e9b8ebf151946618804b3f6707168744c976c4e", func := "loop.example/pub-levelsandmarks/laws.FnFillEmpty", spec := "fnFillEmpty", inPlace := ["internal/reflectlite.ValueOf", "internal/reflectlite.Swapper", "(internal/reflectlite.Value).Len", "internal/bytealg.Compare", "math.archCeil", "math.archFloor", "math.Float64bits", "math.Float64frombits", "math.archTrunc"], unfollowed := true, recurses := true, apart := false, narrowed := true }
def FnFillEmptyUptoSaid : Prop := fnFillEmptyUptoRow.holds Tryz.pinned (OpenSpec.upto fnFillEmptySpec)

/-- 'laws.FnFillFree', WHERE WHAT IT READS IS OF BULK AT MOST 1048576: true; the input reads as it did. -/
def fnFillFreeUptoRow : OpenClaim := { program := "ytnineoajmgneiaagreat", sum := "86429117fcd8718e16f05d0e4e9b8ebf151946618804b3f6707168744c976c4e", func := "loop.example/pub-levelsandmarks/laws.FnFillFree", spec := "fnFillFree", inPlace := ["internal/reflectlite.ValueOf", "internal/reflectlite.Swapper", "(internal/reflectlite.Value).Len", "internal/bytealg.Compare", "math.archCeil", "math.archFloor", "math.Float64bits", "math.Float64frombits", "math.archTrunc"], unfollowed := true, recurses := true, apart := false, narrowed := true }
def FnFillFreeUptoSaid : Prop := fnFillFreeUptoRow.holds Tryz.pinned (OpenSpec.upto fnFillFreeSpec)

/-- 'laws.FnFillMeets', WHERE WHAT IT READS IS OF BULK AT MOST 1048576: true; the input reads as it did. -/
def fnFillMeetsUptoRow : OpenClaim := { program := "ytnineoajmgneiaagreat", sum := "86429117fcd8718e16f05d0e4e9b8ebf151946618804b3f6707168744c976c4e", func := "loop.example/pub-levelsandmarks/laws.FnFillMeets", spec := "fnFillMeets", inPlace := ["internal/reflectlite.ValueOf", "internal/reflectlite.Swapper", "(internal/reflectlite.Value).Len", "internal/bytealg.Compare", "math.archCeil", "math.archFloor", "math.Float64bits", "math.Float64frombits", "math.archTrunc"], unfollowed := true, recurses := true, apart := false, narrowed := true }
def FnFillMeetsUptoSaid : Prop := fnFillMeetsUptoRow.holds Tryz.pinned (OpenSpec.upto fnFillMeetsSpec)

/-- 'laws.FnFillNext', WHERE WHAT IT READS IS OF BULK AT MOST 1048576: true; the input reads as it did. -/
def fnFillNextUptoRow : OpenClaim := { program := "ytnineoajmgneiaagreat", sum := "86429117fcd8718e16f05d0e4e9b8ebf151946618804b3f6707168744c976c4e", func := "loop.example/pub-levelsandmarks/laws.FnFillNext", spec := "fnFillNext", inPlace := ["internal/reflectlite.ValueOf", "internal/reflectlite.Swapper", "(internal/reflectlite.Value).Len", "internal/bytealg.Compare", "math.archCeil", "math.archFloor", "math.Float64bits", "math.Float64frombits", "math.archTrunc"], unfollowed := true, recurses := true, apart := false, narrowed := true }
def FnFillNextUptoSaid : Prop := fnFillNextUptoRow.holds Tryz.pinned (OpenSpec.upto fnFillNextSpec)

/-- 'laws.FnFillNumbers', WHERE WHAT IT READS IS OF BULK AT MOST 1048576: true; the input reads as it did. -/
def fnFillNumbersUptoRow : OpenClaim := { program := "ytnineoajmgneiaagreat", sum := "86429117fcd8718e16f05d0e4e9b8ebf151946618804b3f6707168744c976c4e", func := "loop.example/pub-levelsandmarks/laws.FnFillNumbers", spec := "fnFillNumbers", inPlace := ["internal/reflectlite.ValueOf", "internal/reflectlite.Swapper", "(internal/reflectlite.Value).Len", "internal/bytealg.Compare", "math.archCeil", "math.archFloor", "math.Float64bits", "math.Float64frombits", "math.archTrunc"], unfollowed := true, recurses := true, apart := false, narrowed := true }
def FnFillNumbersUptoSaid : Prop := fnFillNumbersUptoRow.holds Tryz.pinned (OpenSpec.upto fnFillNumbersSpec)

/-- 'laws.FnFillOne', WHERE WHAT IT READS IS OF BULK AT MOST 1048576: true; the input reads as it did. -/
def fnFillOneUptoRow : OpenClaim := { program := "ytnineoajmgneiaagreat", sum := "86429117fcd8718e16f05d0e4e9b8ebf151946618804b3f6707168744c976c4e", func := "loop.example/pub-levelsandmarks/laws.FnFillOne", spec := "fnFillOne", inPlace := ["internal/reflectlite.ValueOf", "internal/reflectlite.Swapper", "(internal/reflectlite.Value).Len", "internal/bytealg.Compare", "math.archCeil", "math.archFloor", "math.Float64bits", "math.Float64frombits", "math.archTrunc"], unfollowed := true, recurses := true, apart := false, narrowed := true }
def FnFillOneUptoSaid : Prop := fnFillOneUptoRow.holds Tryz.pinned (OpenSpec.upto fnFillOneSpec)

/-- 'laws.FnFillOut', WHERE WHAT IT READS IS OF BULK AT MOST 1048576: true; the input reads as it did. -/
def fnFillOutUptoRow : OpenClaim := { program := "ytnineoajmgneiaagreat", sum := "86429117fcd8718e16f05d0e4e9b8ebf151946618804b3f6707168744c976c4e", func := "loop.example/pub-levelsandmarks/laws.FnFillOut", spec := "fnFillOut", inPlace := ["internal/reflectlite.ValueOf", "internal/reflectlite.Swapper", "(internal/reflectlite.Value).Len", "internal/bytealg.Compare", "math.archCeil", "math.archFloor", "math.Float64bits", "math.Float64frombits", "math.archTrunc"], unfollowed := true, recurses := true, apart := false, narrowed := true }
def FnFillOutUptoSaid : Prop := fnFillOutUptoRow.holds Tryz.pinned (OpenSpec.upto fnFillOutSpec)

/-- 'laws.FnFillRuns', WHERE WHAT IT READS IS OF BULK AT MOST 1048576: true; the input reads as it did. -/
def fnFillRunsUptoRow : OpenClaim := { program := "ytnineoajmgneiaagreat", sum := "86429117fcd8718e16f05d0e4e9b8ebf151946618804b3f6707168744c976c4e", func := "loop.example/pub-levelsandmarks/laws.FnFillRuns", spec := "fnFillRuns", inPlace := ["internal/reflectlite.ValueOf", "internal/reflectlite.Swapper", "(internal/reflectlite.Value).Len", "internal/bytealg.Compare", "math.archCeil", "math.archFloor", "math.Float64bits", "math.Float64frombits", "math.archTrunc"], unfollowed := true, recurses := true, apart := false, narrowed := true }
def FnFillRunsUptoSaid : Prop := fnFillRunsUptoRow.holds Tryz.pinned (OpenSpec.upto fnFillRunsSpec)

/-- 'laws.FnFillTables', WHERE WHAT IT READS IS OF BULK AT MOST 1048576: true; the input reads as it did. -/
def fnFillTablesUptoRow : OpenClaim := { program := "ytnineoajmgneiaagreat", sum := "86429117fcd8718e16f05d0e4e9b8ebf151946618804b3f6707168744c976c4e", func := "loop.example/pub-levelsandmarks/laws.FnFillTables", spec := "fnFillTables", inPlace := ["internal/reflectlite.ValueOf", "internal/reflectlite.Swapper", "(internal/reflectlite.Value).Len", "internal/bytealg.Compare", "math.archCeil", "math.archFloor", "math.Float64bits", "math.Float64frombits", "math.archTrunc"], unfollowed := true, recurses := true, apart := false, narrowed := true }
def FnFillTablesUptoSaid : Prop := fnFillTablesUptoRow.holds Tryz.pinned (OpenSpec.upto fnFillTablesSpec)

/-- 'laws.FnPickLevels', WHERE WHAT IT READS IS OF BULK AT MOST 1048576: true; the input reads as it did. -/
def fnPickLevelsUptoRow : OpenClaim := { program := "ytnineoajmgneiaagreat", sum := "86429117fcd8718e16f05d0e4e9b8ebf151946618804b3f6707168744c976c4e", func := "loop.example/pub-levelsandmarks/laws.FnPickLevels", spec := "fnPickLevels", inPlace := ["internal/reflectlite.ValueOf", "internal/reflectlite.Swapper", "(internal/reflectlite.Value).Len", "internal/bytealg.Compare", "math.archCeil", "math.archFloor", "math.Float64bits", "math.Float64frombits", "math.archTrunc"], unfollowed := true, recurses := true, apart := false, narrowed := true }
def FnPickLevelsUptoSaid : Prop := fnPickLevelsUptoRow.holds Tryz.pinned (OpenSpec.upto fnPickLevelsSpec)

/-- 'laws.FnPickOrder', WHERE WHAT IT READS IS OF BULK AT MOST 1048576: true; the input reads as it did. -/
def fnPickOrderUptoRow : OpenClaim := { program := "ytnineoajmgneiaagreat", sum := "86429117fcd8718e16f05d0e4e9b8ebf151946618804b3f6707168744c976c4e", func := "loop.example/pub-levelsandmarks/laws.FnPickOrder", spec := "fnPickOrder", inPlace := ["internal/reflectlite.ValueOf", "internal/reflectlite.Swapper", "(internal/reflectlite.Value).Len", "internal/bytealg.Compare", "math.archCeil", "math.archFloor", "math.Float64bits", "math.Float64frombits", "math.archTrunc"], unfollowed := true, recurses := true, apart := false, narrowed := true }
def FnPickOrderUptoSaid : Prop := fnPickOrderUptoRow.holds Tryz.pinned (OpenSpec.upto fnPickOrderSpec)

/-- 'laws.FnPickZero', WHERE WHAT IT READS IS OF BULK AT MOST 1048576: true; the input reads as it did. -/
def fnPickZeroUptoRow : OpenClaim := { program := "ytnineoajmgneiaagreat", sum := "86429117fcd8718e16f05d0e4e9b8ebf151946618804b3f6707168744c976c4e", func := "loop.example/pub-levelsandmarks/laws.FnPickZero", spec := "fnPickZero", inPlace := ["internal/reflectlite.ValueOf", "internal/reflectlite.Swapper", "(internal/reflectlite.Value).Len", "internal/bytealg.Compare", "math.archCeil", "math.archFloor", "math.Float64bits", "math.Float64frombits", "math.archTrunc"], unfollowed := true, recurses := true, apart := false, narrowed := true }
def FnPickZeroUptoSaid : Prop := fnPickZeroUptoRow.holds Tryz.pinned (OpenSpec.upto fnPickZeroSpec)

/-- 'laws.FnTargetBase', WHERE WHAT IT READS IS OF BULK AT MOST 1048576: true; the input reads as it did. -/
def fnTargetBaseUptoRow : OpenClaim := { program := "ytnineoajmgneiaagreat", sum := "86429117fcd8718e16f05d0e4e9b8ebf151946618804b3f6707168744c976c4e", func := "loop.example/pub-levelsandmarks/laws.FnTargetBase", spec := "fnTargetBase", inPlace := ["internal/reflectlite.ValueOf", "internal/reflectlite.Swapper", "(internal/reflectlite.Value).Len", "internal/bytealg.Compare", "math.archCeil", "math.archFloor", "math.Float64bits", "math.Float64frombits", "math.archTrunc"], unfollowed := true, recurses := true, apart := false, narrowed := true }
def FnTargetBaseUptoSaid : Prop := fnTargetBaseUptoRow.holds Tryz.pinned (OpenSpec.upto fnTargetBaseSpec)

end Rows
end Go.Proofs.YtnineoajmgneiaaGreat
