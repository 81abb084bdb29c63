/-
  No cell of these rows narrows 'for every input' (looked for: loops, veiled, ifaces, maps, wideKeys, modest, calm, conditions, laid).
  DERIVED. THE GIVEN ROWS OF THIS SEAT. 8 by the template 'for every input the law returns true; each argument reads behind the call as it read before'; 0 by the template 'total and deterministic' (their statements: YouaewTotals.lean).
  GIVEN WITH THE SEED: the statements are not yours to turn. If you find one false, say at which input.
  Laid BY PROGRAM, IN A SANDBOX (cutbox-rows.mjs): the forced cells as the released guide's own fill.sh prints them over the translation 3248d4cdbd6189aa… (all of the seat's roots in one cut). By AI agents, Wed Nov 11 2026. No macro, syntax, notation, axiom, sorry.
-/
import Derived.Test.YouaewChecked
import GoSem.Claim
import GoSem.ClaimJoined
import GoSem.ClaimMapViews
import Derived.JoinedTies
import Derived.KernelRfl
namespace Go.Proofs.Youaew
/- THE CELL 'sum', in the pinned program and in every row, IS THE sha256 OF THE DUMP (.gsa) THAT YouaewProg.lean LOADS. Nothing in Lean hashes anything: it is a label: what it is worth is what the hold of that sum in a sandbox is worth. -/
noncomputable def Uaeg.pinned : Pinned := { name := "youaew", sum := "3248d4cdbd6189aa9fd5305b41b61591542205f72ee4c9f6350714a4de3b454e", checked := Uaeg.checked }
namespace Rows
def none {H : Type} : Left H := { results := [], args := [] }

/-- 'zzlaws_root_b5.FnStartsWithMatchesByteModel': WHATEVER THE INPUT: true; the input reads as it did. -/
def fnStartsWithMatchesByteModelSpec : ChangeSpec := { name := "fnStartsWithMatchesByteModel", fn := fun _ => fun
  | [d1, d2] => { results := [.lit (.bool true)], args := [d1, d2] }
  | _ => none }
def fnStartsWithMatchesByteModelRow : OpenClaim := { program := "youaew", sum := "3248d4cdbd6189aa9fd5305b41b61591542205f72ee4c9f6350714a4de3b454e", func := "github.com/jmespath/go-jmespath/zzlaws_root_b5.FnStartsWithMatchesByteModel", spec := "fnStartsWithMatchesByteModel", apart := false }
def FnStartsWithMatchesByteModelSaid : Prop := fnStartsWithMatchesByteModelRow.holds Uaeg.pinned (OpenSpec.ofChange fnStartsWithMatchesByteModelSpec)

/-- ITS FALSE NEIGHBOUR: 'it returns false'. Refute it at one input. -/
def fnStartsWithMatchesByteModelWrong : ChangeSpec := { name := "fnStartsWithMatchesByteModel", fn := fun _ => fun
  | [d1, d2] => { results := [.lit (.bool false)], args := [d1, d2] }
  | _ => none }
def FnStartsWithMatchesByteModelWrongFalsely : Prop := fnStartsWithMatchesByteModelRow.holds Uaeg.pinned (OpenSpec.ofChange fnStartsWithMatchesByteModelWrong)

/-- 'zzlaws_root_b5.FnStartsWithPlantedAndImpliesContains': WHATEVER THE INPUT: true; the input reads as it did. -/
def fnStartsWithPlantedAndImpliesContainsSpec : ChangeSpec := { name := "fnStartsWithPlantedAndImpliesContains", fn := fun _ => fun
  | [d1, d2, d3] => { results := [.lit (.bool true)], args := [d1, d2, d3] }
  | _ => none }
def fnStartsWithPlantedAndImpliesContainsRow : OpenClaim := { program := "youaew", sum := "3248d4cdbd6189aa9fd5305b41b61591542205f72ee4c9f6350714a4de3b454e", func := "github.com/jmespath/go-jmespath/zzlaws_root_b5.FnStartsWithPlantedAndImpliesContains", spec := "fnStartsWithPlantedAndImpliesContains", inPlace := ["internal/bytealg.IndexByteString", "internal/bytealg.IndexString"], named := ["internal/bytealg.MaxLen"], apart := false }
def FnStartsWithPlantedAndImpliesContainsSaid : Prop := fnStartsWithPlantedAndImpliesContainsRow.holds Uaeg.pinned (OpenSpec.ofChange fnStartsWithPlantedAndImpliesContainsSpec)

/-- ITS FALSE NEIGHBOUR: 'it returns false'. Refute it at one input. -/
def fnStartsWithPlantedAndImpliesContainsWrong : ChangeSpec := { name := "fnStartsWithPlantedAndImpliesContains", fn := fun _ => fun
  | [d1, d2, d3] => { results := [.lit (.bool false)], args := [d1, d2, d3] }
  | _ => none }
def FnStartsWithPlantedAndImpliesContainsWrongFalsely : Prop := fnStartsWithPlantedAndImpliesContainsRow.holds Uaeg.pinned (OpenSpec.ofChange fnStartsWithPlantedAndImpliesContainsWrong)

/-- 'zzlaws_root_b5.FnAvgOfIntegersIsExactMean': WHATEVER THE INPUT: true; the input reads as it did. -/
def fnAvgOfIntegersIsExactMeanSpec : ChangeSpec := { name := "fnAvgOfIntegersIsExactMean", fn := fun _ => fun
  | [d] => { results := [.lit (.bool true)], args := [d] }
  | _ => none }
def fnAvgOfIntegersIsExactMeanRow : OpenClaim := { program := "youaew", sum := "3248d4cdbd6189aa9fd5305b41b61591542205f72ee4c9f6350714a4de3b454e", func := "github.com/jmespath/go-jmespath/zzlaws_root_b5.FnAvgOfIntegersIsExactMean", spec := "fnAvgOfIntegersIsExactMean", apart := false }
def FnAvgOfIntegersIsExactMeanSaid : Prop := fnAvgOfIntegersIsExactMeanRow.holds Uaeg.pinned (OpenSpec.ofChange fnAvgOfIntegersIsExactMeanSpec)

/-- ITS FALSE NEIGHBOUR: 'it returns false'. Refute it at one input. -/
def fnAvgOfIntegersIsExactMeanWrong : ChangeSpec := { name := "fnAvgOfIntegersIsExactMean", fn := fun _ => fun
  | [d] => { results := [.lit (.bool false)], args := [d] }
  | _ => none }
def FnAvgOfIntegersIsExactMeanWrongFalsely : Prop := fnAvgOfIntegersIsExactMeanRow.holds Uaeg.pinned (OpenSpec.ofChange fnAvgOfIntegersIsExactMeanWrong)

/-- 'zzlaws_root_b5.FnAvgOfDoubledListAndBounds': WHATEVER THE INPUT: true; the input reads as it did. -/
def fnAvgOfDoubledListAndBoundsSpec : ChangeSpec := { name := "fnAvgOfDoubledListAndBounds", fn := fun _ => fun
  | [d] => { results := [.lit (.bool true)], args := [d] }
  | _ => none }
def fnAvgOfDoubledListAndBoundsRow : OpenClaim := { program := "youaew", sum := "3248d4cdbd6189aa9fd5305b41b61591542205f72ee4c9f6350714a4de3b454e", func := "github.com/jmespath/go-jmespath/zzlaws_root_b5.FnAvgOfDoubledListAndBounds", spec := "fnAvgOfDoubledListAndBounds", apart := false }
def FnAvgOfDoubledListAndBoundsSaid : Prop := fnAvgOfDoubledListAndBoundsRow.holds Uaeg.pinned (OpenSpec.ofChange fnAvgOfDoubledListAndBoundsSpec)

/-- ITS FALSE NEIGHBOUR: 'it returns false'. Refute it at one input. -/
def fnAvgOfDoubledListAndBoundsWrong : ChangeSpec := { name := "fnAvgOfDoubledListAndBounds", fn := fun _ => fun
  | [d] => { results := [.lit (.bool false)], args := [d] }
  | _ => none }
def FnAvgOfDoubledListAndBoundsWrongFalsely : Prop := fnAvgOfDoubledListAndBoundsRow.holds Uaeg.pinned (OpenSpec.ofChange fnAvgOfDoubledListAndBoundsWrong)

/-- 'zzlaws_root_b5.FnCeilOfGridPointExact': WHATEVER THE INPUT: true; the input reads as it did. -/
def fnCeilOfGridPointExactSpec : ChangeSpec := { name := "fnCeilOfGridPointExact", fn := fun _ => fun
  | [d1, d2] => { results := [.lit (.bool true)], args := [d1, d2] }
  | _ => none }
def fnCeilOfGridPointExactRow : OpenClaim := { program := "youaew", sum := "3248d4cdbd6189aa9fd5305b41b61591542205f72ee4c9f6350714a4de3b454e", func := "github.com/jmespath/go-jmespath/zzlaws_root_b5.FnCeilOfGridPointExact", spec := "fnCeilOfGridPointExact", inPlace := ["math.archCeil", "math.archFloor", "math.Float64bits", "math.Float64frombits", "math.archTrunc"], apart := false }
def FnCeilOfGridPointExactSaid : Prop := fnCeilOfGridPointExactRow.holds Uaeg.pinned (OpenSpec.ofChange fnCeilOfGridPointExactSpec)

/-- ITS FALSE NEIGHBOUR: 'it returns false'. Refute it at one input. -/
def fnCeilOfGridPointExactWrong : ChangeSpec := { name := "fnCeilOfGridPointExact", fn := fun _ => fun
  | [d1, d2] => { results := [.lit (.bool false)], args := [d1, d2] }
  | _ => none }
def FnCeilOfGridPointExactWrongFalsely : Prop := fnCeilOfGridPointExactRow.holds Uaeg.pinned (OpenSpec.ofChange fnCeilOfGridPointExactWrong)

/-- 'zzlaws_root_b5.FnCeilBoundsEveryFloat': WHATEVER THE INPUT: true; the input reads as it did. -/
def fnCeilBoundsEveryFloatSpec : ChangeSpec := { name := "fnCeilBoundsEveryFloat", fn := fun _ => fun
  | [d] => { results := [.lit (.bool true)], args := [d] }
  | _ => none }
def fnCeilBoundsEveryFloatRow : OpenClaim := { program := "youaew", sum := "3248d4cdbd6189aa9fd5305b41b61591542205f72ee4c9f6350714a4de3b454e", func := "github.com/jmespath/go-jmespath/zzlaws_root_b5.FnCeilBoundsEveryFloat", spec := "fnCeilBoundsEveryFloat", inPlace := ["math.archCeil", "math.archFloor", "math.Float64bits", "math.Float64frombits", "math.archTrunc"], apart := false }
def FnCeilBoundsEveryFloatSaid : Prop := fnCeilBoundsEveryFloatRow.holds Uaeg.pinned (OpenSpec.ofChange fnCeilBoundsEveryFloatSpec)

/-- ITS FALSE NEIGHBOUR: 'it returns false'. Refute it at one input. -/
def fnCeilBoundsEveryFloatWrong : ChangeSpec := { name := "fnCeilBoundsEveryFloat", fn := fun _ => fun
  | [d] => { results := [.lit (.bool false)], args := [d] }
  | _ => none }
def FnCeilBoundsEveryFloatWrongFalsely : Prop := fnCeilBoundsEveryFloatRow.holds Uaeg.pinned (OpenSpec.ofChange fnCeilBoundsEveryFloatWrong)

/-- 'zzlaws_root_b5.FnContainsStrMatchesNaiveSearch': WHATEVER THE INPUT: true; the input reads as it did. -/
def fnContainsStrMatchesNaiveSearchSpec : ChangeSpec := { name := "fnContainsStrMatchesNaiveSearch", fn := fun _ => fun
  | [d1, d2, d3] => { results := [.lit (.bool true)], args := [d1, d2, d3] }
  | _ => none }
def fnContainsStrMatchesNaiveSearchRow : OpenClaim := { program := "youaew", sum := "3248d4cdbd6189aa9fd5305b41b61591542205f72ee4c9f6350714a4de3b454e", func := "github.com/jmespath/go-jmespath/zzlaws_root_b5.FnContainsStrMatchesNaiveSearch", spec := "fnContainsStrMatchesNaiveSearch", inPlace := ["internal/bytealg.IndexByteString", "internal/bytealg.IndexString"], named := ["internal/bytealg.MaxLen"], apart := false }
def FnContainsStrMatchesNaiveSearchSaid : Prop := fnContainsStrMatchesNaiveSearchRow.holds Uaeg.pinned (OpenSpec.ofChange fnContainsStrMatchesNaiveSearchSpec)

/-- ITS FALSE NEIGHBOUR: 'it returns false'. Refute it at one input. -/
def fnContainsStrMatchesNaiveSearchWrong : ChangeSpec := { name := "fnContainsStrMatchesNaiveSearch", fn := fun _ => fun
  | [d1, d2, d3] => { results := [.lit (.bool false)], args := [d1, d2, d3] }
  | _ => none }
def FnContainsStrMatchesNaiveSearchWrongFalsely : Prop := fnContainsStrMatchesNaiveSearchRow.holds Uaeg.pinned (OpenSpec.ofChange fnContainsStrMatchesNaiveSearchWrong)

/-- 'zzlaws_root_b5.FnContainsNumsIsMembership': WHATEVER THE INPUT: true; the input reads as it did. -/
def fnContainsNumsIsMembershipSpec : ChangeSpec := { name := "fnContainsNumsIsMembership", fn := fun _ => fun
  | [d1, d2] => { results := [.lit (.bool true)], args := [d1, d2] }
  | _ => none }
def fnContainsNumsIsMembershipRow : OpenClaim := { program := "youaew", sum := "3248d4cdbd6189aa9fd5305b41b61591542205f72ee4c9f6350714a4de3b454e", func := "github.com/jmespath/go-jmespath/zzlaws_root_b5.FnContainsNumsIsMembership", spec := "fnContainsNumsIsMembership", inPlace := ["internal/bytealg.IndexByteString", "internal/bytealg.IndexString"], named := ["internal/bytealg.MaxLen"], apart := false }
def FnContainsNumsIsMembershipSaid : Prop := fnContainsNumsIsMembershipRow.holds Uaeg.pinned (OpenSpec.ofChange fnContainsNumsIsMembershipSpec)

/-- ITS FALSE NEIGHBOUR: 'it returns false'. Refute it at one input. -/
def fnContainsNumsIsMembershipWrong : ChangeSpec := { name := "fnContainsNumsIsMembership", fn := fun _ => fun
  | [d1, d2] => { results := [.lit (.bool false)], args := [d1, d2] }
  | _ => none }
def FnContainsNumsIsMembershipWrongFalsely : Prop := fnContainsNumsIsMembershipRow.holds Uaeg.pinned (OpenSpec.ofChange fnContainsNumsIsMembershipWrong)

end Rows
end Go.Proofs.Youaew
