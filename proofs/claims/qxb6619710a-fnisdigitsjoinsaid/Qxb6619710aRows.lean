/-
  No cell of these rows narrows 'for every input' (looked for: loops, veiled, ifaces, maps, wideKeys, modest, calm, conditions, laid).
  DERIVED. THE GIVEN ROWS OF THIS SEAT. 2 by the template 'for every input the law returns true; each argument reads behind the call as it read before'; 0 by the template 'total and deterministic' (their statements: Qxb6619710aTotals.lean).
  GIVEN WITH THE SEED: the statements are not yours to turn. If you find one false, say at which input.
  Laid BY PROGRAM, IN A SANDBOX (cutbox-rows.mjs): the forced cells as the released guide's own fill.sh prints them over the translation 42b20a44fc4b0c91… (all of the seat's roots in one cut). By AI agents, Wed Nov 11 2026. No macro, syntax, notation, axiom, sorry.
-/
import Derived.Test.Qxb6619710aChecked
import GoSem.Claim
import GoSem.ClaimJoined
import GoSem.ClaimMapViews
import Derived.JoinedTies
import Derived.KernelRfl
namespace Go.Proofs.Qxb6619710a
/- THE CELL 'sum', in the pinned program and in every row, IS THE sha256 OF THE DUMP (.gsa) THAT Qxb6619710aProg.lean LOADS. Nothing in Lean hashes anything: it is a label: what it is worth is what the hold of that sum in a sandbox is worth. -/
noncomputable def Try.pinned : Pinned := { name := "qxb6619710a", sum := "42b20a44fc4b0c918aa9809937c1c92db95b7a578ba5903db8ef9a3f954ed5f9", checked := Try.checked }
namespace Rows
def none {H : Type} : Left H := { results := [], args := [] }

/-- 'zzlaws_pkg_money_b1.FnIsDigitsJoin': WHATEVER THE INPUT: true; the input reads as it did. -/
def fnIsDigitsJoinSpec : ChangeSpec := { name := "fnIsDigitsJoin", fn := fun _ => fun
  | [d1, d2] => { results := [.lit (.bool true)], args := [d1, d2] }
  | _ => none }
def fnIsDigitsJoinRow : OpenClaim := { program := "qxb6619710a", sum := "42b20a44fc4b0c918aa9809937c1c92db95b7a578ba5903db8ef9a3f954ed5f9", func := "example.com/ledger-for-chats/ledger-for-chats/zzlaws_pkg_money_b1.FnIsDigitsJoin", spec := "fnIsDigitsJoin", apart := false }
def FnIsDigitsJoinSaid : Prop := fnIsDigitsJoinRow.holds Try.pinned (OpenSpec.ofChange fnIsDigitsJoinSpec)

/-- ITS FALSE NEIGHBOUR: 'it returns false'. Refute it at one input. -/
def fnIsDigitsJoinWrong : ChangeSpec := { name := "fnIsDigitsJoin", fn := fun _ => fun
  | [d1, d2] => { results := [.lit (.bool false)], args := [d1, d2] }
  | _ => none }
def FnIsDigitsJoinWrongFalsely : Prop := fnIsDigitsJoinRow.holds Try.pinned (OpenSpec.ofChange fnIsDigitsJoinWrong)

/-- 'zzlaws_pkg_money_b1.FnIsDigitsInsertByte': WHATEVER THE INPUT: true; the input reads as it did. -/
def fnIsDigitsInsertByteSpec : ChangeSpec := { name := "fnIsDigitsInsertByte", fn := fun _ => fun
  | [d1, d2, d3] => { results := [.lit (.bool true)], args := [d1, d2, d3] }
  | _ => none }
def fnIsDigitsInsertByteRow : OpenClaim := { program := "qxb6619710a", sum := "42b20a44fc4b0c918aa9809937c1c92db95b7a578ba5903db8ef9a3f954ed5f9", func := "example.com/ledger-for-chats/ledger-for-chats/zzlaws_pkg_money_b1.FnIsDigitsInsertByte", spec := "fnIsDigitsInsertByte", apart := false }
def FnIsDigitsInsertByteSaid : Prop := fnIsDigitsInsertByteRow.holds Try.pinned (OpenSpec.ofChange fnIsDigitsInsertByteSpec)

/-- ITS FALSE NEIGHBOUR: 'it returns false'. Refute it at one input. -/
def fnIsDigitsInsertByteWrong : ChangeSpec := { name := "fnIsDigitsInsertByte", fn := fun _ => fun
  | [d1, d2, d3] => { results := [.lit (.bool false)], args := [d1, d2, d3] }
  | _ => none }
def FnIsDigitsInsertByteWrongFalsely : Prop := fnIsDigitsInsertByteRow.holds Try.pinned (OpenSpec.ofChange fnIsDigitsInsertByteWrong)

end Rows
end Go.Proofs.Qxb6619710a
