/-
  No cell of these rows narrows 'for every input' (looked for: loops, veiled, ifaces, maps, wideKeys, modest, calm, conditions, laid).
  DERIVED. THE GIVEN ROWS OF THIS SEAT. 6 by the template 'for every input the law returns true; each argument reads behind the call as it read before'; 0 by the template 'total and deterministic' (their statements: Qxb6604686aTotals.lean).
  GIVEN WITH THE SEED: the statements are not yours to turn. If you find one false, say at which input.
  Laid BY PROGRAM, IN A SANDBOX (cutbox-rows.mjs): the forced cells as the released guide's own fill.sh prints them over the translation d192e91eda63ff02… (all of the seat's roots in one cut). By AI agents, Wed Nov 11 2026. No macro, syntax, notation, axiom, sorry.
-/
import Derived.Test.Qxb6604686aChecked
import GoSem.Claim
import GoSem.ClaimJoined
import GoSem.ClaimMapViews
import Derived.JoinedTies
import Derived.KernelRfl
namespace Go.Proofs.Qxb6604686a
/- THE CELL 'sum', in the pinned program and in every row, IS THE sha256 OF THE DUMP (.gsa) THAT Qxb6604686aProg.lean LOADS. Nothing in Lean hashes anything: it is a label: what it is worth is what the hold of that sum in a sandbox is worth. -/
noncomputable def Try.pinned : Pinned := { name := "qxb6604686a", sum := "d192e91eda63ff028eac80754fc99028c5340e6ac5ff1b602cb2f437883efe63", checked := Try.checked }
namespace Rows
def none {H : Type} : Left H := { results := [], args := [] }

/-- 'zzlaws_root_b1.FnExpressionMeansUnionOfIntersections': WHATEVER THE INPUT: true; the input reads as it did. -/
def fnExpressionMeansUnionOfIntersectionsSpec : ChangeSpec := { name := "fnExpressionMeansUnionOfIntersections", fn := fun _ => fun
  | [d] => { results := [.lit (.bool true)], args := [d] }
  | _ => none }
def fnExpressionMeansUnionOfIntersectionsRow : OpenClaim := { program := "qxb6604686a", sum := "d192e91eda63ff028eac80754fc99028c5340e6ac5ff1b602cb2f437883efe63", func := "example.com/upper-bound/upper-bound/zzlaws_root_b1.FnExpressionMeansUnionOfIntersections", spec := "fnExpressionMeansUnionOfIntersections", recurses := true, apart := false }
def FnExpressionMeansUnionOfIntersectionsSaid : Prop := fnExpressionMeansUnionOfIntersectionsRow.holds Try.pinned (OpenSpec.ofChange fnExpressionMeansUnionOfIntersectionsSpec)

/-- ITS FALSE NEIGHBOUR: 'it returns false'. Refute it at one input. -/
def fnExpressionMeansUnionOfIntersectionsWrong : ChangeSpec := { name := "fnExpressionMeansUnionOfIntersections", fn := fun _ => fun
  | [d] => { results := [.lit (.bool false)], args := [d] }
  | _ => none }
def FnExpressionMeansUnionOfIntersectionsWrongFalsely : Prop := fnExpressionMeansUnionOfIntersectionsRow.holds Try.pinned (OpenSpec.ofChange fnExpressionMeansUnionOfIntersectionsWrong)

/-- 'zzlaws_root_b1.FnExpressionReadsBackAsTerms': WHATEVER THE INPUT: true; the input reads as it did. -/
def fnExpressionReadsBackAsTermsSpec : ChangeSpec := { name := "fnExpressionReadsBackAsTerms", fn := fun _ => fun
  | [d] => { results := [.lit (.bool true)], args := [d] }
  | _ => none }
def fnExpressionReadsBackAsTermsRow : OpenClaim := { program := "qxb6604686a", sum := "d192e91eda63ff028eac80754fc99028c5340e6ac5ff1b602cb2f437883efe63", func := "example.com/upper-bound/upper-bound/zzlaws_root_b1.FnExpressionReadsBackAsTerms", spec := "fnExpressionReadsBackAsTerms", apart := false }
def FnExpressionReadsBackAsTermsSaid : Prop := fnExpressionReadsBackAsTermsRow.holds Try.pinned (OpenSpec.ofChange fnExpressionReadsBackAsTermsSpec)

/-- ITS FALSE NEIGHBOUR: 'it returns false'. Refute it at one input. -/
def fnExpressionReadsBackAsTermsWrong : ChangeSpec := { name := "fnExpressionReadsBackAsTerms", fn := fun _ => fun
  | [d] => { results := [.lit (.bool false)], args := [d] }
  | _ => none }
def FnExpressionReadsBackAsTermsWrongFalsely : Prop := fnExpressionReadsBackAsTermsRow.holds Try.pinned (OpenSpec.ofChange fnExpressionReadsBackAsTermsWrong)

/-- 'zzlaws_root_b1.FnAllowedMatchesModel': WHATEVER THE INPUT: true; the input reads as it did. -/
def fnAllowedMatchesModelSpec : ChangeSpec := { name := "fnAllowedMatchesModel", fn := fun _ => fun
  | [d1, d2, d3, d4, d5, d6, d7, d8, d9] => { results := [.lit (.bool true)], args := [d1, d2, d3, d4, d5, d6, d7, d8, d9] }
  | _ => none }
def fnAllowedMatchesModelRow : OpenClaim := { program := "qxb6604686a", sum := "d192e91eda63ff028eac80754fc99028c5340e6ac5ff1b602cb2f437883efe63", func := "example.com/upper-bound/upper-bound/zzlaws_root_b1.FnAllowedMatchesModel", spec := "fnAllowedMatchesModel", unfollowed := true, recurses := true, apart := false }
def FnAllowedMatchesModelSaid : Prop := fnAllowedMatchesModelRow.holds Try.pinned (OpenSpec.ofChange fnAllowedMatchesModelSpec)

/-- ITS FALSE NEIGHBOUR: 'it returns false'. Refute it at one input. -/
def fnAllowedMatchesModelWrong : ChangeSpec := { name := "fnAllowedMatchesModel", fn := fun _ => fun
  | [d1, d2, d3, d4, d5, d6, d7, d8, d9] => { results := [.lit (.bool false)], args := [d1, d2, d3, d4, d5, d6, d7, d8, d9] }
  | _ => none }
def FnAllowedMatchesModelWrongFalsely : Prop := fnAllowedMatchesModelRow.holds Try.pinned (OpenSpec.ofChange fnAllowedMatchesModelWrong)

/-- 'zzlaws_root_b1.FnAllowedMonotoneInHeld': WHATEVER THE INPUT: true; the input reads as it did. -/
def fnAllowedMonotoneInHeldSpec : ChangeSpec := { name := "fnAllowedMonotoneInHeld", fn := fun _ => fun
  | [d1, d2, d3, d4, d5, d6, d7, d8, d9, d10] => { results := [.lit (.bool true)], args := [d1, d2, d3, d4, d5, d6, d7, d8, d9, d10] }
  | _ => none }
def fnAllowedMonotoneInHeldRow : OpenClaim := { program := "qxb6604686a", sum := "d192e91eda63ff028eac80754fc99028c5340e6ac5ff1b602cb2f437883efe63", func := "example.com/upper-bound/upper-bound/zzlaws_root_b1.FnAllowedMonotoneInHeld", spec := "fnAllowedMonotoneInHeld", unfollowed := true, recurses := true, apart := false }
def FnAllowedMonotoneInHeldSaid : Prop := fnAllowedMonotoneInHeldRow.holds Try.pinned (OpenSpec.ofChange fnAllowedMonotoneInHeldSpec)

/-- ITS FALSE NEIGHBOUR: 'it returns false'. Refute it at one input. -/
def fnAllowedMonotoneInHeldWrong : ChangeSpec := { name := "fnAllowedMonotoneInHeld", fn := fun _ => fun
  | [d1, d2, d3, d4, d5, d6, d7, d8, d9, d10] => { results := [.lit (.bool false)], args := [d1, d2, d3, d4, d5, d6, d7, d8, d9, d10] }
  | _ => none }
def FnAllowedMonotoneInHeldWrongFalsely : Prop := fnAllowedMonotoneInHeldRow.holds Try.pinned (OpenSpec.ofChange fnAllowedMonotoneInHeldWrong)

/-- 'zzlaws_root_b1.FnRolesOfPartitionsState': WHATEVER THE INPUT: true; the input reads as it did. -/
def fnRolesOfPartitionsStateSpec : ChangeSpec := { name := "fnRolesOfPartitionsState", fn := fun _ => fun
  | [d1, d2] => { results := [.lit (.bool true)], args := [d1, d2] }
  | _ => none }
def fnRolesOfPartitionsStateRow : OpenClaim := { program := "qxb6604686a", sum := "d192e91eda63ff028eac80754fc99028c5340e6ac5ff1b602cb2f437883efe63", func := "example.com/upper-bound/upper-bound/zzlaws_root_b1.FnRolesOfPartitionsState", spec := "fnRolesOfPartitionsState", apart := false }
def FnRolesOfPartitionsStateSaid : Prop := fnRolesOfPartitionsStateRow.holds Try.pinned (OpenSpec.ofChange fnRolesOfPartitionsStateSpec)

/-- ITS FALSE NEIGHBOUR: 'it returns false'. Refute it at one input. -/
def fnRolesOfPartitionsStateWrong : ChangeSpec := { name := "fnRolesOfPartitionsState", fn := fun _ => fun
  | [d1, d2] => { results := [.lit (.bool false)], args := [d1, d2] }
  | _ => none }
def FnRolesOfPartitionsStateWrongFalsely : Prop := fnRolesOfPartitionsStateRow.holds Try.pinned (OpenSpec.ofChange fnRolesOfPartitionsStateWrong)

/-- 'zzlaws_root_b1.FnRolesOfIsWindowIntoState': WHATEVER THE INPUT: true; the input reads as it did. -/
def fnRolesOfIsWindowIntoStateSpec : ChangeSpec := { name := "fnRolesOfIsWindowIntoState", fn := fun _ => fun
  | [d1, d2, d3] => { results := [.lit (.bool true)], args := [d1, d2, d3] }
  | _ => none }
def fnRolesOfIsWindowIntoStateRow : OpenClaim := { program := "qxb6604686a", sum := "d192e91eda63ff028eac80754fc99028c5340e6ac5ff1b602cb2f437883efe63", func := "example.com/upper-bound/upper-bound/zzlaws_root_b1.FnRolesOfIsWindowIntoState", spec := "fnRolesOfIsWindowIntoState", apart := false }
def FnRolesOfIsWindowIntoStateSaid : Prop := fnRolesOfIsWindowIntoStateRow.holds Try.pinned (OpenSpec.ofChange fnRolesOfIsWindowIntoStateSpec)

/-- ITS FALSE NEIGHBOUR: 'it returns false'. Refute it at one input. -/
def fnRolesOfIsWindowIntoStateWrong : ChangeSpec := { name := "fnRolesOfIsWindowIntoState", fn := fun _ => fun
  | [d1, d2, d3] => { results := [.lit (.bool false)], args := [d1, d2, d3] }
  | _ => none }
def FnRolesOfIsWindowIntoStateWrongFalsely : Prop := fnRolesOfIsWindowIntoStateRow.holds Try.pinned (OpenSpec.ofChange fnRolesOfIsWindowIntoStateWrong)

end Rows
end Go.Proofs.Qxb6604686a
