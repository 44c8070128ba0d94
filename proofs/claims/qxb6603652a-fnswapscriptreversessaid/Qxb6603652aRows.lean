/-
  No cell of these rows narrows 'for every input' (looked for: loops, veiled, ifaces, maps, wideKeys, modest, calm, conditions, laid).
  DERIVED. THE GIVEN ROWS OF THIS SEAT. 2 by the template 'for every input the law returns true; each argument reads behind the call as it read before'; 0 by the template 'total and deterministic' (their statements: Qxb6603652aTotals.lean).
  GIVEN WITH THE SEED: the statements are not yours to turn. If you find one false, say at which input.
  Laid BY PROGRAM, IN A SANDBOX (cutbox-rows.mjs): the forced cells as the released guide's own fill.sh prints them over the translation f3dd0c86c07e45fc… (all of the seat's roots in one cut). By AI agents, Wed Nov 11 2026. No macro, syntax, notation, axiom, sorry.
-/
import Derived.Test.Qxb6603652aChecked
import GoSem.Claim
import GoSem.ClaimJoined
import GoSem.ClaimMapViews
import Derived.JoinedTies
import Derived.KernelRfl
namespace Go.Proofs.Qxb6603652a
/- THE CELL 'sum', in the pinned program and in every row, IS THE sha256 OF THE DUMP (.gsa) THAT Qxb6603652aProg.lean LOADS. Nothing in Lean hashes anything: it is a label: what it is worth is what the hold of that sum in a sandbox is worth. -/
noncomputable def Try.pinned : Pinned := { name := "qxb6603652a", sum := "f3dd0c86c07e45fc697e28363c2fab8351fbc0343bd25a4c49dac4d582d1f463", checked := Try.checked }
namespace Rows
def none {H : Type} : Left H := { results := [], args := [] }

/-- 'zzlaws_pkg_history_b1.FnSwapIsTranspositionAndInvolution': WHATEVER THE INPUT: true; the input reads as it did. -/
def fnSwapIsTranspositionAndInvolutionSpec : ChangeSpec := { name := "fnSwapIsTranspositionAndInvolution", fn := fun _ => fun
  | [d1, d2, d3] => { results := [.lit (.bool true)], args := [d1, d2, d3] }
  | _ => none }
def fnSwapIsTranspositionAndInvolutionRow : OpenClaim := { program := "qxb6603652a", sum := "f3dd0c86c07e45fc697e28363c2fab8351fbc0343bd25a4c49dac4d582d1f463", func := "example.com/serialis/serialis/zzlaws_pkg_history_b1.FnSwapIsTranspositionAndInvolution", spec := "fnSwapIsTranspositionAndInvolution", apart := false }
def FnSwapIsTranspositionAndInvolutionSaid : Prop := fnSwapIsTranspositionAndInvolutionRow.holds Try.pinned (OpenSpec.ofChange fnSwapIsTranspositionAndInvolutionSpec)

/-- ITS FALSE NEIGHBOUR: 'it returns false'. Refute it at one input. -/
def fnSwapIsTranspositionAndInvolutionWrong : ChangeSpec := { name := "fnSwapIsTranspositionAndInvolution", fn := fun _ => fun
  | [d1, d2, d3] => { results := [.lit (.bool false)], args := [d1, d2, d3] }
  | _ => none }
def FnSwapIsTranspositionAndInvolutionWrongFalsely : Prop := fnSwapIsTranspositionAndInvolutionRow.holds Try.pinned (OpenSpec.ofChange fnSwapIsTranspositionAndInvolutionWrong)

/-- 'zzlaws_pkg_history_b1.FnSwapScriptReverses': WHATEVER THE INPUT: true; the input reads as it did. -/
def fnSwapScriptReversesSpec : ChangeSpec := { name := "fnSwapScriptReverses", fn := fun _ => fun
  | [d] => { results := [.lit (.bool true)], args := [d] }
  | _ => none }
def fnSwapScriptReversesRow : OpenClaim := { program := "qxb6603652a", sum := "f3dd0c86c07e45fc697e28363c2fab8351fbc0343bd25a4c49dac4d582d1f463", func := "example.com/serialis/serialis/zzlaws_pkg_history_b1.FnSwapScriptReverses", spec := "fnSwapScriptReverses", apart := false }
def FnSwapScriptReversesSaid : Prop := fnSwapScriptReversesRow.holds Try.pinned (OpenSpec.ofChange fnSwapScriptReversesSpec)

/-- ITS FALSE NEIGHBOUR: 'it returns false'. Refute it at one input. -/
def fnSwapScriptReversesWrong : ChangeSpec := { name := "fnSwapScriptReverses", fn := fun _ => fun
  | [d] => { results := [.lit (.bool false)], args := [d] }
  | _ => none }
def FnSwapScriptReversesWrongFalsely : Prop := fnSwapScriptReversesRow.holds Try.pinned (OpenSpec.ofChange fnSwapScriptReversesWrong)

end Rows
end Go.Proofs.Qxb6603652a
