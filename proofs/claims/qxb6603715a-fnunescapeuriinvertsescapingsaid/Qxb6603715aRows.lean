/-
  No cell of these rows narrows 'for every input' (looked for: loops, veiled, ifaces, maps, wideKeys, modest, calm, conditions, laid).
  DERIVED. THE GIVEN ROWS OF THIS SEAT. 2 by the template 'for every input the law returns true; each argument reads behind the call as it read before'; 0 by the template 'total and deterministic' (their statements: Qxb6603715aTotals.lean).
  GIVEN WITH THE SEED: the statements are not yours to turn. If you find one false, say at which input.
  Laid BY PROGRAM, IN A SANDBOX (cutbox-rows.mjs): the forced cells as the released guide's own fill.sh prints them over the translation fc08cfaf07ec460c… (all of the seat's roots in one cut). By AI agents, Wed Nov 11 2026. No macro, syntax, notation, axiom, sorry.
-/
import Derived.Test.Qxb6603715aChecked
import GoSem.Claim
import GoSem.ClaimJoined
import GoSem.ClaimMapViews
import Derived.JoinedTies
import Derived.KernelRfl
namespace Go.Proofs.Qxb6603715a
/- THE CELL 'sum', in the pinned program and in every row, IS THE sha256 OF THE DUMP (.gsa) THAT Qxb6603715aProg.lean LOADS. Nothing in Lean hashes anything: it is a label: what it is worth is what the hold of that sum in a sandbox is worth. -/
noncomputable def Try.pinned : Pinned := { name := "qxb6603715a", sum := "fc08cfaf07ec460c1823d6d37d198894c17e969fbc7fb312056d40deba43da1c", checked := Try.checked }
namespace Rows
def none {H : Type} : Left H := { results := [], args := [] }

/-- 'zzlaws_yamlfile_b1.FnVersionMatchesLongestMatch': WHATEVER THE INPUT: true; the input reads as it did. -/
def fnVersionMatchesLongestMatchSpec : ChangeSpec := { name := "fnVersionMatchesLongestMatch", fn := fun _ => fun
  | [d1, d2, d3, d4, d5, d6, d7] => { results := [.lit (.bool true)], args := [d1, d2, d3, d4, d5, d6, d7] }
  | _ => none }
def fnVersionMatchesLongestMatchRow : OpenClaim := { program := "qxb6603715a", sum := "fc08cfaf07ec460c1823d6d37d198894c17e969fbc7fb312056d40deba43da1c", func := "example.com/vestline/vestline/zzlaws_yamlfile_b1.FnVersionMatchesLongestMatch", spec := "fnVersionMatchesLongestMatch", unfollowed := true, recurses := true, apart := false }
def FnVersionMatchesLongestMatchSaid : Prop := fnVersionMatchesLongestMatchRow.holds Try.pinned (OpenSpec.ofChange fnVersionMatchesLongestMatchSpec)

/-- ITS FALSE NEIGHBOUR: 'it returns false'. Refute it at one input. -/
def fnVersionMatchesLongestMatchWrong : ChangeSpec := { name := "fnVersionMatchesLongestMatch", fn := fun _ => fun
  | [d1, d2, d3, d4, d5, d6, d7] => { results := [.lit (.bool false)], args := [d1, d2, d3, d4, d5, d6, d7] }
  | _ => none }
def FnVersionMatchesLongestMatchWrongFalsely : Prop := fnVersionMatchesLongestMatchRow.holds Try.pinned (OpenSpec.ofChange fnVersionMatchesLongestMatchWrong)

/-- 'zzlaws_yamlfile_b1.FnUnescapeURIInvertsEscaping': WHATEVER THE INPUT: true; the input reads as it did. -/
def fnUnescapeURIInvertsEscapingSpec : ChangeSpec := { name := "fnUnescapeURIInvertsEscaping", fn := fun _ => fun
  | [d1, d2, d3] => { results := [.lit (.bool true)], args := [d1, d2, d3] }
  | _ => none }
def fnUnescapeURIInvertsEscapingRow : OpenClaim := { program := "qxb6603715a", sum := "fc08cfaf07ec460c1823d6d37d198894c17e969fbc7fb312056d40deba43da1c", func := "example.com/vestline/vestline/zzlaws_yamlfile_b1.FnUnescapeURIInvertsEscaping", spec := "fnUnescapeURIInvertsEscaping", apart := false }
def FnUnescapeURIInvertsEscapingSaid : Prop := fnUnescapeURIInvertsEscapingRow.holds Try.pinned (OpenSpec.ofChange fnUnescapeURIInvertsEscapingSpec)

/-- ITS FALSE NEIGHBOUR: 'it returns false'. Refute it at one input. -/
def fnUnescapeURIInvertsEscapingWrong : ChangeSpec := { name := "fnUnescapeURIInvertsEscaping", fn := fun _ => fun
  | [d1, d2, d3] => { results := [.lit (.bool false)], args := [d1, d2, d3] }
  | _ => none }
def FnUnescapeURIInvertsEscapingWrongFalsely : Prop := fnUnescapeURIInvertsEscapingRow.holds Try.pinned (OpenSpec.ofChange fnUnescapeURIInvertsEscapingWrong)

end Rows
end Go.Proofs.Qxb6603715a
