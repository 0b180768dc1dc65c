/-
  No cell of these rows narrows 'for every input' (looked for: loops, veiled, ifaces, maps, wideKeys, modest, calm, conditions, laid).
  DERIVED. THE GIVEN ROWS OF THIS SEAT. 1 by the template 'for every input the law returns true; each argument reads behind the call as it read before'; 0 by the template 'total and deterministic' (their statements: Qxb6619751aTotals.lean).
  GIVEN WITH THE SEED: the statements are not yours to turn. If you find one false, say at which input.
  Laid BY PROGRAM, IN A SANDBOX (cutbox-rows.mjs): the forced cells as the released guide's own fill.sh prints them over the translation 181d00d130c79ac4… (all of the seat's roots in one cut). By AI agents, Wed Nov 11 2026. No macro, syntax, notation, axiom, sorry.
-/
import Derived.Test.Qxb6619751aChecked
import GoSem.Claim
import GoSem.ClaimJoined
import GoSem.ClaimMapViews
import Derived.JoinedTies
import Derived.KernelRfl
namespace Go.Proofs.Qxb6619751a
/- THE CELL 'sum', in the pinned program and in every row, IS THE sha256 OF THE DUMP (.gsa) THAT Qxb6619751aProg.lean LOADS. Nothing in Lean hashes anything: it is a label: what it is worth is what the hold of that sum in a sandbox is worth. -/
noncomputable def Try.pinned : Pinned := { name := "qxb6619751a", sum := "181d00d130c79ac4a8e49ba4723566269dd6db40451bca6c6f6623de4cb1bb0f", checked := Try.checked }
namespace Rows
def none {H : Type} : Left H := { results := [], args := [] }

/-- 'zzlaws_strictjson_b1.FnClosesRunReadsEveryClosingByte': WHATEVER THE INPUT: true; the input reads as it did. -/
def fnClosesRunReadsEveryClosingByteSpec : ChangeSpec := { name := "fnClosesRunReadsEveryClosingByte", fn := fun _ => fun
  | [d1, d2, d3, d4] => { results := [.lit (.bool true)], args := [d1, d2, d3, d4] }
  | _ => none }
def fnClosesRunReadsEveryClosingByteRow : OpenClaim := { program := "qxb6619751a", sum := "181d00d130c79ac4a8e49ba4723566269dd6db40451bca6c6f6623de4cb1bb0f", func := "example.com/tuplewright/tuplewright/zzlaws_strictjson_b1.FnClosesRunReadsEveryClosingByte", spec := "fnClosesRunReadsEveryClosingByte", apart := false }
def FnClosesRunReadsEveryClosingByteSaid : Prop := fnClosesRunReadsEveryClosingByteRow.holds Try.pinned (OpenSpec.ofChange fnClosesRunReadsEveryClosingByteSpec)

/-- ITS FALSE NEIGHBOUR: 'it returns false'. Refute it at one input. -/
def fnClosesRunReadsEveryClosingByteWrong : ChangeSpec := { name := "fnClosesRunReadsEveryClosingByte", fn := fun _ => fun
  | [d1, d2, d3, d4] => { results := [.lit (.bool false)], args := [d1, d2, d3, d4] }
  | _ => none }
def FnClosesRunReadsEveryClosingByteWrongFalsely : Prop := fnClosesRunReadsEveryClosingByteRow.holds Try.pinned (OpenSpec.ofChange fnClosesRunReadsEveryClosingByteWrong)

end Rows
end Go.Proofs.Qxb6619751a
