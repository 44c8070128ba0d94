/-
  No cell of these rows narrows 'for every input' (looked for: loops, veiled, ifaces, maps, wideKeys, modest, calm, conditions, laid).
  DERIVED. THE GIVEN ROWS OF THIS SEAT. 2 by the template 'for every input the law returns true; each argument reads behind the call as it read before'; 0 by the template 'total and deterministic' (their statements: Qxb6604621aTotals.lean).
  GIVEN WITH THE SEED: the statements are not yours to turn. If you find one false, say at which input.
  Laid BY PROGRAM, IN A SANDBOX (cutbox-rows.mjs): the forced cells as the released guide's own fill.sh prints them over the translation 76ed52c80ce65fbd… (all of the seat's roots in one cut). By AI agents, Wed Nov 11 2026. No macro, syntax, notation, axiom, sorry.
-/
import Derived.Test.Qxb6604621aChecked
import GoSem.Claim
import GoSem.ClaimJoined
import GoSem.ClaimMapViews
import Derived.JoinedTies
import Derived.KernelRfl
namespace Go.Proofs.Qxb6604621a
/- THE CELL 'sum', in the pinned program and in every row, IS THE sha256 OF THE DUMP (.gsa) THAT Qxb6604621aProg.lean LOADS. Nothing in Lean hashes anything: it is a label: what it is worth is what the hold of that sum in a sandbox is worth. -/
noncomputable def Try.pinned : Pinned := { name := "qxb6604621a", sum := "76ed52c80ce65fbd7571ec30ea0073b0a26eac8b9969264156d9f8ffe09ecd8d", checked := Try.checked }
namespace Rows
def none {H : Type} : Left H := { results := [], args := [] }

/-- 'zzlaws_pkg_prices_b1.FnSymbolReadsBackEachLaidOutSymbol': WHATEVER THE INPUT: true; the input reads as it did. -/
def fnSymbolReadsBackEachLaidOutSymbolSpec : ChangeSpec := { name := "fnSymbolReadsBackEachLaidOutSymbol", fn := fun _ => fun
  | [d1, d2] => { results := [.lit (.bool true)], args := [d1, d2] }
  | _ => none }
def fnSymbolReadsBackEachLaidOutSymbolRow : OpenClaim := { program := "qxb6604621a", sum := "76ed52c80ce65fbd7571ec30ea0073b0a26eac8b9969264156d9f8ffe09ecd8d", func := "example.com/tuoguan/tuoguan/zzlaws_pkg_prices_b1.FnSymbolReadsBackEachLaidOutSymbol", spec := "fnSymbolReadsBackEachLaidOutSymbol", apart := false }
def FnSymbolReadsBackEachLaidOutSymbolSaid : Prop := fnSymbolReadsBackEachLaidOutSymbolRow.holds Try.pinned (OpenSpec.ofChange fnSymbolReadsBackEachLaidOutSymbolSpec)

/-- ITS FALSE NEIGHBOUR: 'it returns false'. Refute it at one input. -/
def fnSymbolReadsBackEachLaidOutSymbolWrong : ChangeSpec := { name := "fnSymbolReadsBackEachLaidOutSymbol", fn := fun _ => fun
  | [d1, d2] => { results := [.lit (.bool false)], args := [d1, d2] }
  | _ => none }
def FnSymbolReadsBackEachLaidOutSymbolWrongFalsely : Prop := fnSymbolReadsBackEachLaidOutSymbolRow.holds Try.pinned (OpenSpec.ofChange fnSymbolReadsBackEachLaidOutSymbolWrong)

/-- 'zzlaws_pkg_prices_b1.FnSymbolOfEarlierClosesKeepsWhenTheFileStopsSooner': WHATEVER THE INPUT: true; the input reads as it did. -/
def fnSymbolOfEarlierClosesKeepsWhenTheFileStopsSoonerSpec : ChangeSpec := { name := "fnSymbolOfEarlierClosesKeepsWhenTheFileStopsSooner", fn := fun _ => fun
  | [d1, d2, d3] => { results := [.lit (.bool true)], args := [d1, d2, d3] }
  | _ => none }
def fnSymbolOfEarlierClosesKeepsWhenTheFileStopsSoonerRow : OpenClaim := { program := "qxb6604621a", sum := "76ed52c80ce65fbd7571ec30ea0073b0a26eac8b9969264156d9f8ffe09ecd8d", func := "example.com/tuoguan/tuoguan/zzlaws_pkg_prices_b1.FnSymbolOfEarlierClosesKeepsWhenTheFileStopsSooner", spec := "fnSymbolOfEarlierClosesKeepsWhenTheFileStopsSooner", apart := false }
def FnSymbolOfEarlierClosesKeepsWhenTheFileStopsSoonerSaid : Prop := fnSymbolOfEarlierClosesKeepsWhenTheFileStopsSoonerRow.holds Try.pinned (OpenSpec.ofChange fnSymbolOfEarlierClosesKeepsWhenTheFileStopsSoonerSpec)

/-- ITS FALSE NEIGHBOUR: 'it returns false'. Refute it at one input. -/
def fnSymbolOfEarlierClosesKeepsWhenTheFileStopsSoonerWrong : ChangeSpec := { name := "fnSymbolOfEarlierClosesKeepsWhenTheFileStopsSooner", fn := fun _ => fun
  | [d1, d2, d3] => { results := [.lit (.bool false)], args := [d1, d2, d3] }
  | _ => none }
def FnSymbolOfEarlierClosesKeepsWhenTheFileStopsSoonerWrongFalsely : Prop := fnSymbolOfEarlierClosesKeepsWhenTheFileStopsSoonerRow.holds Try.pinned (OpenSpec.ofChange fnSymbolOfEarlierClosesKeepsWhenTheFileStopsSoonerWrong)

end Rows
end Go.Proofs.Qxb6604621a
