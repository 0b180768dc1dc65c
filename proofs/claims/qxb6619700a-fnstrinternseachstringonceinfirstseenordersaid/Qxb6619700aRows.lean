/-
  No cell of these rows narrows 'for every input' (looked for: loops, veiled, ifaces, maps, wideKeys, modest, calm, conditions, laid).
  DERIVED. THE GIVEN ROWS OF THIS SEAT. 3 by the template 'for every input the law returns true; each argument reads behind the call as it read before'; 0 by the template 'total and deterministic' (their statements: Qxb6619700aTotals.lean).
  GIVEN WITH THE SEED: the statements are not yours to turn. If you find one false, say at which input.
  Laid BY PROGRAM, IN A SANDBOX (cutbox-rows.mjs): the forced cells as the released guide's own fill.sh prints them over the translation 656b51de409cd202… (all of the seat's roots in one cut). By AI agents, Wed Nov 11 2026. No macro, syntax, notation, axiom, sorry.
-/
import Derived.Test.Qxb6619700aChecked
import GoSem.Claim
import GoSem.ClaimJoined
import GoSem.ClaimMapViews
import Derived.JoinedTies
import Derived.KernelRfl
namespace Go.Proofs.Qxb6619700a
/- THE CELL 'sum', in the pinned program and in every row, IS THE sha256 OF THE DUMP (.gsa) THAT Qxb6619700aProg.lean LOADS. Nothing in Lean hashes anything: it is a label: what it is worth is what the hold of that sum in a sandbox is worth. -/
noncomputable def Try.pinned : Pinned := { name := "qxb6619700a", sum := "656b51de409cd20287589f9a21a8ab93c7274bb84b255c941535d8f7c1526fba", checked := Try.checked }
namespace Rows
def none {H : Type} : Left H := { results := [], args := [] }

/-- 'zzlaws_internal_profile_b1.FnStrInternsEachStringOnceInFirstSeenOrder': WHATEVER THE INPUT: true; the input reads as it did. -/
def fnStrInternsEachStringOnceInFirstSeenOrderSpec : ChangeSpec := { name := "fnStrInternsEachStringOnceInFirstSeenOrder", fn := fun _ => fun
  | [d] => { results := [.lit (.bool true)], args := [d] }
  | _ => none }
def fnStrInternsEachStringOnceInFirstSeenOrderRow : OpenClaim := { program := "qxb6619700a", sum := "656b51de409cd20287589f9a21a8ab93c7274bb84b255c941535d8f7c1526fba", func := "example.com/runq/runq/zzlaws_internal_profile_b1.FnStrInternsEachStringOnceInFirstSeenOrder", spec := "fnStrInternsEachStringOnceInFirstSeenOrder", plainKeys := false, apart := false }
def FnStrInternsEachStringOnceInFirstSeenOrderSaid : Prop := fnStrInternsEachStringOnceInFirstSeenOrderRow.holds Try.pinned (OpenSpec.ofChange fnStrInternsEachStringOnceInFirstSeenOrderSpec)

/-- ITS FALSE NEIGHBOUR: 'it returns false'. Refute it at one input. -/
def fnStrInternsEachStringOnceInFirstSeenOrderWrong : ChangeSpec := { name := "fnStrInternsEachStringOnceInFirstSeenOrder", fn := fun _ => fun
  | [d] => { results := [.lit (.bool false)], args := [d] }
  | _ => none }
def FnStrInternsEachStringOnceInFirstSeenOrderWrongFalsely : Prop := fnStrInternsEachStringOnceInFirstSeenOrderRow.holds Try.pinned (OpenSpec.ofChange fnStrInternsEachStringOnceInFirstSeenOrderWrong)

/-- 'zzlaws_internal_profile_b1.FnAppendUintAddsOneVarintFieldOrNothing': WHATEVER THE INPUT: true; the input reads as it did. -/
def fnAppendUintAddsOneVarintFieldOrNothingSpec : ChangeSpec := { name := "fnAppendUintAddsOneVarintFieldOrNothing", fn := fun _ => fun
  | [d1, d2, d3] => { results := [.lit (.bool true)], args := [d1, d2, d3] }
  | _ => none }
def fnAppendUintAddsOneVarintFieldOrNothingRow : OpenClaim := { program := "qxb6619700a", sum := "656b51de409cd20287589f9a21a8ab93c7274bb84b255c941535d8f7c1526fba", func := "example.com/runq/runq/zzlaws_internal_profile_b1.FnAppendUintAddsOneVarintFieldOrNothing", spec := "fnAppendUintAddsOneVarintFieldOrNothing", plainKeys := false, apart := false }
def FnAppendUintAddsOneVarintFieldOrNothingSaid : Prop := fnAppendUintAddsOneVarintFieldOrNothingRow.holds Try.pinned (OpenSpec.ofChange fnAppendUintAddsOneVarintFieldOrNothingSpec)

/-- ITS FALSE NEIGHBOUR: 'it returns false'. Refute it at one input. -/
def fnAppendUintAddsOneVarintFieldOrNothingWrong : ChangeSpec := { name := "fnAppendUintAddsOneVarintFieldOrNothing", fn := fun _ => fun
  | [d1, d2, d3] => { results := [.lit (.bool false)], args := [d1, d2, d3] }
  | _ => none }
def FnAppendUintAddsOneVarintFieldOrNothingWrongFalsely : Prop := fnAppendUintAddsOneVarintFieldOrNothingRow.holds Try.pinned (OpenSpec.ofChange fnAppendUintAddsOneVarintFieldOrNothingWrong)

/-- 'zzlaws_internal_profile_b1.FnFieldsAppendedInAnyOrderReadBackInOrder': WHATEVER THE INPUT: true; the input reads as it did. -/
def fnFieldsAppendedInAnyOrderReadBackInOrderSpec : ChangeSpec := { name := "fnFieldsAppendedInAnyOrderReadBackInOrder", fn := fun _ => fun
  | [d1, d2, d3, d4] => { results := [.lit (.bool true)], args := [d1, d2, d3, d4] }
  | _ => none }
def fnFieldsAppendedInAnyOrderReadBackInOrderRow : OpenClaim := { program := "qxb6619700a", sum := "656b51de409cd20287589f9a21a8ab93c7274bb84b255c941535d8f7c1526fba", func := "example.com/runq/runq/zzlaws_internal_profile_b1.FnFieldsAppendedInAnyOrderReadBackInOrder", spec := "fnFieldsAppendedInAnyOrderReadBackInOrder", plainKeys := false, apart := false }
def FnFieldsAppendedInAnyOrderReadBackInOrderSaid : Prop := fnFieldsAppendedInAnyOrderReadBackInOrderRow.holds Try.pinned (OpenSpec.ofChange fnFieldsAppendedInAnyOrderReadBackInOrderSpec)

/-- ITS FALSE NEIGHBOUR: 'it returns false'. Refute it at one input. -/
def fnFieldsAppendedInAnyOrderReadBackInOrderWrong : ChangeSpec := { name := "fnFieldsAppendedInAnyOrderReadBackInOrder", fn := fun _ => fun
  | [d1, d2, d3, d4] => { results := [.lit (.bool false)], args := [d1, d2, d3, d4] }
  | _ => none }
def FnFieldsAppendedInAnyOrderReadBackInOrderWrongFalsely : Prop := fnFieldsAppendedInAnyOrderReadBackInOrderRow.holds Try.pinned (OpenSpec.ofChange fnFieldsAppendedInAnyOrderReadBackInOrderWrong)

end Rows
end Go.Proofs.Qxb6619700a
