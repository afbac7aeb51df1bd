/-
  No cell of these rows narrows 'for every input' (looked for: loops, veiled, ifaces, maps, wideKeys, modest, calm, conditions, laid).
  DERIVED. THE GIVEN ROWS OF THIS SEAT. 3 by the template 'for every input the law returns true; each argument reads behind the call as it read before'; 0 by the template 'total and deterministic' (their statements: Qxb6603473aTotals.lean).
  GIVEN WITH THE SEED: the statements are not yours to turn. If you find one false, say at which input.
  Laid BY PROGRAM, IN A SANDBOX (cutbox-rows.mjs): the forced cells as the released guide's own fill.sh prints them over the translation 82ee13989668a132… (all of the seat's roots in one cut). By AI agents, Wed Nov 11 2026. No macro, syntax, notation, axiom, sorry.
-/
import Derived.Test.Qxb6603473aChecked
import GoSem.Claim
import GoSem.ClaimJoined
import GoSem.ClaimMapViews
import Derived.JoinedTies
import Derived.KernelRfl
namespace Go.Proofs.Qxb6603473a
/- THE CELL 'sum', in the pinned program and in every row, IS THE sha256 OF THE DUMP (.gsa) THAT Qxb6603473aProg.lean LOADS. Nothing in Lean hashes anything: it is a label: what it is worth is what the hold of that sum in a sandbox is worth. -/
noncomputable def Try.pinned : Pinned := { name := "qxb6603473a", sum := "82ee13989668a132c4f647127cd56acb64b461dd625cbdd49fab01b7f51becae", checked := Try.checked }
namespace Rows
def none {H : Type} : Left H := { results := [], args := [] }

/-- 'zzlaws_root_b1.FnAcyclicOrderWitnessesItsAnswer': WHATEVER THE INPUT: true; the input reads as it did. -/
def fnAcyclicOrderWitnessesItsAnswerSpec : ChangeSpec := { name := "fnAcyclicOrderWitnessesItsAnswer", fn := fun _ => fun
  | [d] => { results := [.lit (.bool true)], args := [d] }
  | _ => none }
def fnAcyclicOrderWitnessesItsAnswerRow : OpenClaim := { program := "qxb6603473a", sum := "82ee13989668a132c4f647127cd56acb64b461dd625cbdd49fab01b7f51becae", func := "example.com/portcullis/portcullis/zzlaws_root_b1.FnAcyclicOrderWitnessesItsAnswer", spec := "fnAcyclicOrderWitnessesItsAnswer", apart := false }
def FnAcyclicOrderWitnessesItsAnswerSaid : Prop := fnAcyclicOrderWitnessesItsAnswerRow.holds Try.pinned (OpenSpec.ofChange fnAcyclicOrderWitnessesItsAnswerSpec)

/-- ITS FALSE NEIGHBOUR: 'it returns false'. Refute it at one input. -/
def fnAcyclicOrderWitnessesItsAnswerWrong : ChangeSpec := { name := "fnAcyclicOrderWitnessesItsAnswer", fn := fun _ => fun
  | [d] => { results := [.lit (.bool false)], args := [d] }
  | _ => none }
def FnAcyclicOrderWitnessesItsAnswerWrongFalsely : Prop := fnAcyclicOrderWitnessesItsAnswerRow.holds Try.pinned (OpenSpec.ofChange fnAcyclicOrderWitnessesItsAnswerWrong)

/-- 'zzlaws_root_b1.FnMenuTreeIsTheMenusUnderTheirParents': WHATEVER THE INPUT: true; the input reads as it did. -/
def fnMenuTreeIsTheMenusUnderTheirParentsSpec : ChangeSpec := { name := "fnMenuTreeIsTheMenusUnderTheirParents", fn := fun _ => fun
  | [d] => { results := [.lit (.bool true)], args := [d] }
  | _ => none }
def fnMenuTreeIsTheMenusUnderTheirParentsRow : OpenClaim := { program := "qxb6603473a", sum := "82ee13989668a132c4f647127cd56acb64b461dd625cbdd49fab01b7f51becae", func := "example.com/portcullis/portcullis/zzlaws_root_b1.FnMenuTreeIsTheMenusUnderTheirParents", spec := "fnMenuTreeIsTheMenusUnderTheirParents", recurses := true, apart := false }
def FnMenuTreeIsTheMenusUnderTheirParentsSaid : Prop := fnMenuTreeIsTheMenusUnderTheirParentsRow.holds Try.pinned (OpenSpec.ofChange fnMenuTreeIsTheMenusUnderTheirParentsSpec)

/-- ITS FALSE NEIGHBOUR: 'it returns false'. Refute it at one input. -/
def fnMenuTreeIsTheMenusUnderTheirParentsWrong : ChangeSpec := { name := "fnMenuTreeIsTheMenusUnderTheirParents", fn := fun _ => fun
  | [d] => { results := [.lit (.bool false)], args := [d] }
  | _ => none }
def FnMenuTreeIsTheMenusUnderTheirParentsWrongFalsely : Prop := fnMenuTreeIsTheMenusUnderTheirParentsRow.holds Try.pinned (OpenSpec.ofChange fnMenuTreeIsTheMenusUnderTheirParentsWrong)

/-- 'zzlaws_root_b1.FnMenuTreeIgnoresNonMenus': WHATEVER THE INPUT: true; the input reads as it did. -/
def fnMenuTreeIgnoresNonMenusSpec : ChangeSpec := { name := "fnMenuTreeIgnoresNonMenus", fn := fun _ => fun
  | [d] => { results := [.lit (.bool true)], args := [d] }
  | _ => none }
def fnMenuTreeIgnoresNonMenusRow : OpenClaim := { program := "qxb6603473a", sum := "82ee13989668a132c4f647127cd56acb64b461dd625cbdd49fab01b7f51becae", func := "example.com/portcullis/portcullis/zzlaws_root_b1.FnMenuTreeIgnoresNonMenus", spec := "fnMenuTreeIgnoresNonMenus", recurses := true, apart := false }
def FnMenuTreeIgnoresNonMenusSaid : Prop := fnMenuTreeIgnoresNonMenusRow.holds Try.pinned (OpenSpec.ofChange fnMenuTreeIgnoresNonMenusSpec)

/-- ITS FALSE NEIGHBOUR: 'it returns false'. Refute it at one input. -/
def fnMenuTreeIgnoresNonMenusWrong : ChangeSpec := { name := "fnMenuTreeIgnoresNonMenus", fn := fun _ => fun
  | [d] => { results := [.lit (.bool false)], args := [d] }
  | _ => none }
def FnMenuTreeIgnoresNonMenusWrongFalsely : Prop := fnMenuTreeIgnoresNonMenusRow.holds Try.pinned (OpenSpec.ofChange fnMenuTreeIgnoresNonMenusWrong)

end Rows
end Go.Proofs.Qxb6603473a
