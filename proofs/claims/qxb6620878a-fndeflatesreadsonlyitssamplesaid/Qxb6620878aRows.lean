/-
  No cell of these rows narrows 'for every input' (looked for: loops, veiled, ifaces, maps, wideKeys, modest, calm, conditions, laid).
  DERIVED. THE GIVEN ROWS OF THIS SEAT. 5 by the template 'for every input the law returns true; each argument reads behind the call as it read before'; 0 by the template 'total and deterministic' (their statements: Qxb6620878aTotals.lean).
  GIVEN WITH THE SEED: the statements are not yours to turn. If you find one false, say at which input.
  Laid BY PROGRAM, IN A SANDBOX (cutbox-rows.mjs): the forced cells as the released guide's own fill.sh prints them over the translation 178182fde8e660c5… (all of the seat's roots in one cut). By AI agents, Wed Nov 11 2026. No macro, syntax, notation, axiom, sorry.
-/
import Derived.Test.Qxb6620878aChecked
import GoSem.Claim
import GoSem.ClaimJoined
import GoSem.ClaimMapViews
import Derived.JoinedTies
import Derived.KernelRfl
namespace Go.Proofs.Qxb6620878a
/- THE CELL 'sum', in the pinned program and in every row, IS THE sha256 OF THE DUMP (.gsa) THAT Qxb6620878aProg.lean LOADS. Nothing in Lean hashes anything: it is a label: what it is worth is what the hold of that sum in a sandbox is worth. -/
noncomputable def Try.pinned : Pinned := { name := "qxb6620878a", sum := "178182fde8e660c55455b63cc93569586cba4480cef9725125ddcc02cdab1555", checked := Try.checked }
namespace Rows
def none {H : Type} : Left H := { results := [], args := [] }

/-- 'zzlaws_internal_store_b1.FnDeflatesEvenAlphabet': WHATEVER THE INPUT: true; the input reads as it did. -/
def fnDeflatesEvenAlphabetSpec : ChangeSpec := { name := "fnDeflatesEvenAlphabet", fn := fun _ => fun
  | [d1, d2, d3, d4] => { results := [.lit (.bool true)], args := [d1, d2, d3, d4] }
  | _ => none }
def fnDeflatesEvenAlphabetRow : OpenClaim := { program := "qxb6620878a", sum := "178182fde8e660c55455b63cc93569586cba4480cef9725125ddcc02cdab1555", func := "example.com/coppice/coppice/zzlaws_internal_store_b1.FnDeflatesEvenAlphabet", spec := "fnDeflatesEvenAlphabet", inPlace := ["math.Float64bits", "math.Float64frombits", "math.archLog"], plainKeys := false, apart := false }
def FnDeflatesEvenAlphabetSaid : Prop := fnDeflatesEvenAlphabetRow.holds Try.pinned (OpenSpec.ofChange fnDeflatesEvenAlphabetSpec)

/-- ITS FALSE NEIGHBOUR: 'it returns false'. Refute it at one input. -/
def fnDeflatesEvenAlphabetWrong : ChangeSpec := { name := "fnDeflatesEvenAlphabet", fn := fun _ => fun
  | [d1, d2, d3, d4] => { results := [.lit (.bool false)], args := [d1, d2, d3, d4] }
  | _ => none }
def FnDeflatesEvenAlphabetWrongFalsely : Prop := fnDeflatesEvenAlphabetRow.holds Try.pinned (OpenSpec.ofChange fnDeflatesEvenAlphabetWrong)

/-- 'zzlaws_internal_store_b1.FnDeflatesReadsOnlyItsSample': WHATEVER THE INPUT: true; the input reads as it did. -/
def fnDeflatesReadsOnlyItsSampleSpec : ChangeSpec := { name := "fnDeflatesReadsOnlyItsSample", fn := fun _ => fun
  | [d] => { results := [.lit (.bool true)], args := [d] }
  | _ => none }
def fnDeflatesReadsOnlyItsSampleRow : OpenClaim := { program := "qxb6620878a", sum := "178182fde8e660c55455b63cc93569586cba4480cef9725125ddcc02cdab1555", func := "example.com/coppice/coppice/zzlaws_internal_store_b1.FnDeflatesReadsOnlyItsSample", spec := "fnDeflatesReadsOnlyItsSample", inPlace := ["math.Float64bits", "math.Float64frombits", "math.archLog"], plainKeys := false, apart := false }
def FnDeflatesReadsOnlyItsSampleSaid : Prop := fnDeflatesReadsOnlyItsSampleRow.holds Try.pinned (OpenSpec.ofChange fnDeflatesReadsOnlyItsSampleSpec)

/-- ITS FALSE NEIGHBOUR: 'it returns false'. Refute it at one input. -/
def fnDeflatesReadsOnlyItsSampleWrong : ChangeSpec := { name := "fnDeflatesReadsOnlyItsSample", fn := fun _ => fun
  | [d] => { results := [.lit (.bool false)], args := [d] }
  | _ => none }
def FnDeflatesReadsOnlyItsSampleWrongFalsely : Prop := fnDeflatesReadsOnlyItsSampleRow.holds Try.pinned (OpenSpec.ofChange fnDeflatesReadsOnlyItsSampleWrong)

/-- 'zzlaws_internal_store_b1.FnParseChangesMatchesFormat': WHATEVER THE INPUT: true; the input reads as it did. -/
def fnParseChangesMatchesFormatSpec : ChangeSpec := { name := "fnParseChangesMatchesFormat", fn := fun _ => fun
  | [d] => { results := [.lit (.bool true)], args := [d] }
  | _ => none }
def fnParseChangesMatchesFormatRow : OpenClaim := { program := "qxb6620878a", sum := "178182fde8e660c55455b63cc93569586cba4480cef9725125ddcc02cdab1555", func := "example.com/coppice/coppice/zzlaws_internal_store_b1.FnParseChangesMatchesFormat", spec := "fnParseChangesMatchesFormat", plainKeys := false, apart := false }
def FnParseChangesMatchesFormatSaid : Prop := fnParseChangesMatchesFormatRow.holds Try.pinned (OpenSpec.ofChange fnParseChangesMatchesFormatSpec)

/-- ITS FALSE NEIGHBOUR: 'it returns false'. Refute it at one input. -/
def fnParseChangesMatchesFormatWrong : ChangeSpec := { name := "fnParseChangesMatchesFormat", fn := fun _ => fun
  | [d] => { results := [.lit (.bool false)], args := [d] }
  | _ => none }
def FnParseChangesMatchesFormatWrongFalsely : Prop := fnParseChangesMatchesFormatRow.holds Try.pinned (OpenSpec.ofChange fnParseChangesMatchesFormatWrong)

/-- 'zzlaws_internal_store_b1.FnParseChangesReadsWhatIsWritten': WHATEVER THE INPUT: true; the input reads as it did. -/
def fnParseChangesReadsWhatIsWrittenSpec : ChangeSpec := { name := "fnParseChangesReadsWhatIsWritten", fn := fun _ => fun
  | [d1, d2, d3, d4] => { results := [.lit (.bool true)], args := [d1, d2, d3, d4] }
  | _ => none }
def fnParseChangesReadsWhatIsWrittenRow : OpenClaim := { program := "qxb6620878a", sum := "178182fde8e660c55455b63cc93569586cba4480cef9725125ddcc02cdab1555", func := "example.com/coppice/coppice/zzlaws_internal_store_b1.FnParseChangesReadsWhatIsWritten", spec := "fnParseChangesReadsWhatIsWritten", plainKeys := false, apart := false }
def FnParseChangesReadsWhatIsWrittenSaid : Prop := fnParseChangesReadsWhatIsWrittenRow.holds Try.pinned (OpenSpec.ofChange fnParseChangesReadsWhatIsWrittenSpec)

/-- ITS FALSE NEIGHBOUR: 'it returns false'. Refute it at one input. -/
def fnParseChangesReadsWhatIsWrittenWrong : ChangeSpec := { name := "fnParseChangesReadsWhatIsWritten", fn := fun _ => fun
  | [d1, d2, d3, d4] => { results := [.lit (.bool false)], args := [d1, d2, d3, d4] }
  | _ => none }
def FnParseChangesReadsWhatIsWrittenWrongFalsely : Prop := fnParseChangesReadsWhatIsWrittenRow.holds Try.pinned (OpenSpec.ofChange fnParseChangesReadsWhatIsWrittenWrong)

/-- 'zzlaws_internal_store_b1.FnParseChangesRefusesEveryCut': WHATEVER THE INPUT: true; the input reads as it did. -/
def fnParseChangesRefusesEveryCutSpec : ChangeSpec := { name := "fnParseChangesRefusesEveryCut", fn := fun _ => fun
  | [d1, d2, d3, d4] => { results := [.lit (.bool true)], args := [d1, d2, d3, d4] }
  | _ => none }
def fnParseChangesRefusesEveryCutRow : OpenClaim := { program := "qxb6620878a", sum := "178182fde8e660c55455b63cc93569586cba4480cef9725125ddcc02cdab1555", func := "example.com/coppice/coppice/zzlaws_internal_store_b1.FnParseChangesRefusesEveryCut", spec := "fnParseChangesRefusesEveryCut", plainKeys := false, apart := false }
def FnParseChangesRefusesEveryCutSaid : Prop := fnParseChangesRefusesEveryCutRow.holds Try.pinned (OpenSpec.ofChange fnParseChangesRefusesEveryCutSpec)

/-- ITS FALSE NEIGHBOUR: 'it returns false'. Refute it at one input. -/
def fnParseChangesRefusesEveryCutWrong : ChangeSpec := { name := "fnParseChangesRefusesEveryCut", fn := fun _ => fun
  | [d1, d2, d3, d4] => { results := [.lit (.bool false)], args := [d1, d2, d3, d4] }
  | _ => none }
def FnParseChangesRefusesEveryCutWrongFalsely : Prop := fnParseChangesRefusesEveryCutRow.holds Try.pinned (OpenSpec.ofChange fnParseChangesRefusesEveryCutWrong)

end Rows
end Go.Proofs.Qxb6620878a
