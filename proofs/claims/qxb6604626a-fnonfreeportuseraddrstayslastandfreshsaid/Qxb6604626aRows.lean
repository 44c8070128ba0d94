/-
  No cell of these rows narrows 'for every input' (looked for: loops, veiled, ifaces, maps, wideKeys, modest, calm, conditions, laid).
  DERIVED. THE GIVEN ROWS OF THIS SEAT. 1 by the template 'for every input the law returns true; each argument reads behind the call as it read before'; 0 by the template 'total and deterministic' (their statements: Qxb6604626aTotals.lean).
  GIVEN WITH THE SEED: the statements are not yours to turn. If you find one false, say at which input.
  Laid BY PROGRAM, IN A SANDBOX (cutbox-rows.mjs): the forced cells as the released guide's own fill.sh prints them over the translation 06669521e8a26085… (all of the seat's roots in one cut). By AI agents, Wed Nov 11 2026. No macro, syntax, notation, axiom, sorry.
-/
import Derived.Test.Qxb6604626aChecked
import GoSem.Claim
import GoSem.ClaimJoined
import GoSem.ClaimMapViews
import Derived.JoinedTies
import Derived.KernelRfl
namespace Go.Proofs.Qxb6604626a
/- THE CELL 'sum', in the pinned program and in every row, IS THE sha256 OF THE DUMP (.gsa) THAT Qxb6604626aProg.lean LOADS. Nothing in Lean hashes anything: it is a label: what it is worth is what the hold of that sum in a sandbox is worth. -/
noncomputable def Try.pinned : Pinned := { name := "qxb6604626a", sum := "06669521e8a26085dc2cfa5f179a731cc15f9839f3933e4acddc10e3494a2697", checked := Try.checked }
namespace Rows
def none {H : Type} : Left H := { results := [], args := [] }

/-- 'zzlaws_internal_servertest_b1.FnOnFreePortUserAddrStaysLastAndFresh': WHATEVER THE INPUT: true; the input reads as it did. -/
def fnOnFreePortUserAddrStaysLastAndFreshSpec : ChangeSpec := { name := "fnOnFreePortUserAddrStaysLastAndFresh", fn := fun _ => fun
  | [d] => { results := [.lit (.bool true)], args := [d] }
  | _ => none }
def fnOnFreePortUserAddrStaysLastAndFreshRow : OpenClaim := { program := "qxb6604626a", sum := "06669521e8a26085dc2cfa5f179a731cc15f9839f3933e4acddc10e3494a2697", func := "example.com/bearer-to-claims/bearer-to-claims/zzlaws_internal_servertest_b1.FnOnFreePortUserAddrStaysLastAndFresh", spec := "fnOnFreePortUserAddrStaysLastAndFresh", apart := false }
def FnOnFreePortUserAddrStaysLastAndFreshSaid : Prop := fnOnFreePortUserAddrStaysLastAndFreshRow.holds Try.pinned (OpenSpec.ofChange fnOnFreePortUserAddrStaysLastAndFreshSpec)

/-- ITS FALSE NEIGHBOUR: 'it returns false'. Refute it at one input. -/
def fnOnFreePortUserAddrStaysLastAndFreshWrong : ChangeSpec := { name := "fnOnFreePortUserAddrStaysLastAndFresh", fn := fun _ => fun
  | [d] => { results := [.lit (.bool false)], args := [d] }
  | _ => none }
def FnOnFreePortUserAddrStaysLastAndFreshWrongFalsely : Prop := fnOnFreePortUserAddrStaysLastAndFreshRow.holds Try.pinned (OpenSpec.ofChange fnOnFreePortUserAddrStaysLastAndFreshWrong)

end Rows
end Go.Proofs.Qxb6604626a
