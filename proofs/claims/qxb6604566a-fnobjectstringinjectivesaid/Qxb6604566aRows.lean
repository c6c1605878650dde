/-
  No cell of these rows narrows 'for every input' (looked for: loops, veiled, ifaces, maps, wideKeys, modest, calm, conditions, laid).
  DERIVED. THE GIVEN ROWS OF THIS SEAT. 1 by the template 'for every input the law returns true; each argument reads behind the call as it read before'; 0 by the template 'total and deterministic' (their statements: Qxb6604566aTotals.lean).
  GIVEN WITH THE SEED: the statements are not yours to turn. If you find one false, say at which input.
  Laid BY PROGRAM, IN A SANDBOX (cutbox-rows.mjs): the forced cells as the released guide's own fill.sh prints them over the translation 6f332f58e4bed35b… (all of the seat's roots in one cut). By AI agents, Wed Nov 11 2026. No macro, syntax, notation, axiom, sorry.
-/
import Derived.Test.Qxb6604566aChecked
import GoSem.Claim
import GoSem.ClaimJoined
import GoSem.ClaimMapViews
import Derived.JoinedTies
import Derived.KernelRfl
namespace Go.Proofs.Qxb6604566a
/- THE CELL 'sum', in the pinned program and in every row, IS THE sha256 OF THE DUMP (.gsa) THAT Qxb6604566aProg.lean LOADS. Nothing in Lean hashes anything: it is a label: what it is worth is what the hold of that sum in a sandbox is worth. -/
noncomputable def Try.pinned : Pinned := { name := "qxb6604566a", sum := "6f332f58e4bed35b8c0f4e5abc33a0c73a3032edd82dfa00b7ebef48ec733ac0", checked := Try.checked }
namespace Rows
def none {H : Type} : Left H := { results := [], args := [] }

/-- 'zzlaws_tuple_b1.FnObjectStringInjective': WHATEVER THE INPUT: true; the input reads as it did. -/
def fnObjectStringInjectiveSpec : ChangeSpec := { name := "fnObjectStringInjective", fn := fun _ => fun
  | [d1, d2, d3, d4] => { results := [.lit (.bool true)], args := [d1, d2, d3, d4] }
  | _ => none }
def fnObjectStringInjectiveRow : OpenClaim := { program := "qxb6604566a", sum := "6f332f58e4bed35b8c0f4e5abc33a0c73a3032edd82dfa00b7ebef48ec733ac0", func := "example.com/access-by-relation/access-by-relation/zzlaws_tuple_b1.FnObjectStringInjective", spec := "fnObjectStringInjective", apart := false }
def FnObjectStringInjectiveSaid : Prop := fnObjectStringInjectiveRow.holds Try.pinned (OpenSpec.ofChange fnObjectStringInjectiveSpec)

/-- ITS FALSE NEIGHBOUR: 'it returns false'. Refute it at one input. -/
def fnObjectStringInjectiveWrong : ChangeSpec := { name := "fnObjectStringInjective", fn := fun _ => fun
  | [d1, d2, d3, d4] => { results := [.lit (.bool false)], args := [d1, d2, d3, d4] }
  | _ => none }
def FnObjectStringInjectiveWrongFalsely : Prop := fnObjectStringInjectiveRow.holds Try.pinned (OpenSpec.ofChange fnObjectStringInjectiveWrong)

end Rows
end Go.Proofs.Qxb6604566a
