/-
  No cell of these rows narrows 'for every input' (looked for: loops, veiled, ifaces, maps, wideKeys, modest, calm, conditions, laid).
  DERIVED. THE GIVEN ROWS OF THIS SEAT. 6 by the template 'for every input the law returns true; each argument reads behind the call as it read before'; 0 by the template 'total and deterministic' (their statements: Qxb6605591aTotals.lean).
  GIVEN WITH THE SEED: the statements are not yours to turn. If you find one false, say at which input.
  Laid BY PROGRAM, IN A SANDBOX (cutbox-rows.mjs): the forced cells as the released guide's own fill.sh prints them over the translation e2485f546e24bcf7… (all of the seat's roots in one cut). By AI agents, Wed Nov 11 2026. No macro, syntax, notation, axiom, sorry.
-/
import Derived.Test.Qxb6605591aChecked
import GoSem.Claim
import GoSem.ClaimJoined
import GoSem.ClaimMapViews
import Derived.JoinedTies
import Derived.KernelRfl
namespace Go.Proofs.Qxb6605591a
/- THE CELL 'sum', in the pinned program and in every row, IS THE sha256 OF THE DUMP (.gsa) THAT Qxb6605591aProg.lean LOADS. Nothing in Lean hashes anything: it is a label: what it is worth is what the hold of that sum in a sandbox is worth. -/
noncomputable def Try.pinned : Pinned := { name := "qxb6605591a", sum := "e2485f546e24bcf701c0e20e4202efae97b96c631a71e6980341260601114afc", checked := Try.checked }
namespace Rows
def none {H : Type} : Left H := { results := [], args := [] }

/-- 'zzlaws_internal_jsonrpc_b1.FnCountMatchesModel': WHATEVER THE INPUT: true; the input reads as it did. -/
def fnCountMatchesModelSpec : ChangeSpec := { name := "fnCountMatchesModel", fn := fun _ => fun
  | [d1, d2] => { results := [.lit (.bool true)], args := [d1, d2] }
  | _ => none }
def fnCountMatchesModelRow : OpenClaim := { program := "qxb6605591a", sum := "e2485f546e24bcf701c0e20e4202efae97b96c631a71e6980341260601114afc", func := "example.com/interpose/interpose/zzlaws_internal_jsonrpc_b1.FnCountMatchesModel", spec := "fnCountMatchesModel", inPlace := ["internal/bytealg.IndexByteString"], apart := false }
def FnCountMatchesModelSaid : Prop := fnCountMatchesModelRow.holds Try.pinned (OpenSpec.ofChange fnCountMatchesModelSpec)

/-- ITS FALSE NEIGHBOUR: 'it returns false'. Refute it at one input. -/
def fnCountMatchesModelWrong : ChangeSpec := { name := "fnCountMatchesModel", fn := fun _ => fun
  | [d1, d2] => { results := [.lit (.bool false)], args := [d1, d2] }
  | _ => none }
def FnCountMatchesModelWrongFalsely : Prop := fnCountMatchesModelRow.holds Try.pinned (OpenSpec.ofChange fnCountMatchesModelWrong)

/-- 'zzlaws_internal_jsonrpc_b1.FnCountBatchOfStrings': WHATEVER THE INPUT: true; the input reads as it did. -/
def fnCountBatchOfStringsSpec : ChangeSpec := { name := "fnCountBatchOfStrings", fn := fun _ => fun
  | [d1, d2] => { results := [.lit (.bool true)], args := [d1, d2] }
  | _ => none }
def fnCountBatchOfStringsRow : OpenClaim := { program := "qxb6605591a", sum := "e2485f546e24bcf701c0e20e4202efae97b96c631a71e6980341260601114afc", func := "example.com/interpose/interpose/zzlaws_internal_jsonrpc_b1.FnCountBatchOfStrings", spec := "fnCountBatchOfStrings", inPlace := ["internal/bytealg.IndexByteString"], apart := false }
def FnCountBatchOfStringsSaid : Prop := fnCountBatchOfStringsRow.holds Try.pinned (OpenSpec.ofChange fnCountBatchOfStringsSpec)

/-- ITS FALSE NEIGHBOUR: 'it returns false'. Refute it at one input. -/
def fnCountBatchOfStringsWrong : ChangeSpec := { name := "fnCountBatchOfStrings", fn := fun _ => fun
  | [d1, d2] => { results := [.lit (.bool false)], args := [d1, d2] }
  | _ => none }
def FnCountBatchOfStringsWrongFalsely : Prop := fnCountBatchOfStringsRow.holds Try.pinned (OpenSpec.ofChange fnCountBatchOfStringsWrong)

/-- 'zzlaws_internal_jsonrpc_b1.FnClosingQuoteMatchesModel': WHATEVER THE INPUT: true; the input reads as it did. -/
def fnClosingQuoteMatchesModelSpec : ChangeSpec := { name := "fnClosingQuoteMatchesModel", fn := fun _ => fun
  | [d1, d2] => { results := [.lit (.bool true)], args := [d1, d2] }
  | _ => none }
def fnClosingQuoteMatchesModelRow : OpenClaim := { program := "qxb6605591a", sum := "e2485f546e24bcf701c0e20e4202efae97b96c631a71e6980341260601114afc", func := "example.com/interpose/interpose/zzlaws_internal_jsonrpc_b1.FnClosingQuoteMatchesModel", spec := "fnClosingQuoteMatchesModel", apart := false }
def FnClosingQuoteMatchesModelSaid : Prop := fnClosingQuoteMatchesModelRow.holds Try.pinned (OpenSpec.ofChange fnClosingQuoteMatchesModelSpec)

/-- ITS FALSE NEIGHBOUR: 'it returns false'. Refute it at one input. -/
def fnClosingQuoteMatchesModelWrong : ChangeSpec := { name := "fnClosingQuoteMatchesModel", fn := fun _ => fun
  | [d1, d2] => { results := [.lit (.bool false)], args := [d1, d2] }
  | _ => none }
def FnClosingQuoteMatchesModelWrongFalsely : Prop := fnClosingQuoteMatchesModelRow.holds Try.pinned (OpenSpec.ofChange fnClosingQuoteMatchesModelWrong)

/-- 'zzlaws_internal_jsonrpc_b1.FnClosingQuoteEndsEncodedString': WHATEVER THE INPUT: true; the input reads as it did. -/
def fnClosingQuoteEndsEncodedStringSpec : ChangeSpec := { name := "fnClosingQuoteEndsEncodedString", fn := fun _ => fun
  | [d1, d2, d3] => { results := [.lit (.bool true)], args := [d1, d2, d3] }
  | _ => none }
def fnClosingQuoteEndsEncodedStringRow : OpenClaim := { program := "qxb6605591a", sum := "e2485f546e24bcf701c0e20e4202efae97b96c631a71e6980341260601114afc", func := "example.com/interpose/interpose/zzlaws_internal_jsonrpc_b1.FnClosingQuoteEndsEncodedString", spec := "fnClosingQuoteEndsEncodedString", apart := false }
def FnClosingQuoteEndsEncodedStringSaid : Prop := fnClosingQuoteEndsEncodedStringRow.holds Try.pinned (OpenSpec.ofChange fnClosingQuoteEndsEncodedStringSpec)

/-- ITS FALSE NEIGHBOUR: 'it returns false'. Refute it at one input. -/
def fnClosingQuoteEndsEncodedStringWrong : ChangeSpec := { name := "fnClosingQuoteEndsEncodedString", fn := fun _ => fun
  | [d1, d2, d3] => { results := [.lit (.bool false)], args := [d1, d2, d3] }
  | _ => none }
def FnClosingQuoteEndsEncodedStringWrongFalsely : Prop := fnClosingQuoteEndsEncodedStringRow.holds Try.pinned (OpenSpec.ofChange fnClosingQuoteEndsEncodedStringWrong)

/-- 'zzlaws_internal_jsonrpc_b1.FnNameSetAddAnswersSeenBefore': WHATEVER THE INPUT: true; the input reads as it did. -/
def fnNameSetAddAnswersSeenBeforeSpec : ChangeSpec := { name := "fnNameSetAddAnswersSeenBefore", fn := fun _ => fun
  | [d] => { results := [.lit (.bool true)], args := [d] }
  | _ => none }
def fnNameSetAddAnswersSeenBeforeRow : OpenClaim := { program := "qxb6605591a", sum := "e2485f546e24bcf701c0e20e4202efae97b96c631a71e6980341260601114afc", func := "example.com/interpose/interpose/zzlaws_internal_jsonrpc_b1.FnNameSetAddAnswersSeenBefore", spec := "fnNameSetAddAnswersSeenBefore", apart := false }
def FnNameSetAddAnswersSeenBeforeSaid : Prop := fnNameSetAddAnswersSeenBeforeRow.holds Try.pinned (OpenSpec.ofChange fnNameSetAddAnswersSeenBeforeSpec)

/-- ITS FALSE NEIGHBOUR: 'it returns false'. Refute it at one input. -/
def fnNameSetAddAnswersSeenBeforeWrong : ChangeSpec := { name := "fnNameSetAddAnswersSeenBefore", fn := fun _ => fun
  | [d] => { results := [.lit (.bool false)], args := [d] }
  | _ => none }
def FnNameSetAddAnswersSeenBeforeWrongFalsely : Prop := fnNameSetAddAnswersSeenBeforeRow.holds Try.pinned (OpenSpec.ofChange fnNameSetAddAnswersSeenBeforeWrong)

/-- 'zzlaws_internal_jsonrpc_b1.FnNameSetKeepsEveryName': WHATEVER THE INPUT: true; the input reads as it did. -/
def fnNameSetKeepsEveryNameSpec : ChangeSpec := { name := "fnNameSetKeepsEveryName", fn := fun _ => fun
  | [d1, d2] => { results := [.lit (.bool true)], args := [d1, d2] }
  | _ => none }
def fnNameSetKeepsEveryNameRow : OpenClaim := { program := "qxb6605591a", sum := "e2485f546e24bcf701c0e20e4202efae97b96c631a71e6980341260601114afc", func := "example.com/interpose/interpose/zzlaws_internal_jsonrpc_b1.FnNameSetKeepsEveryName", spec := "fnNameSetKeepsEveryName", apart := false }
def FnNameSetKeepsEveryNameSaid : Prop := fnNameSetKeepsEveryNameRow.holds Try.pinned (OpenSpec.ofChange fnNameSetKeepsEveryNameSpec)

/-- ITS FALSE NEIGHBOUR: 'it returns false'. Refute it at one input. -/
def fnNameSetKeepsEveryNameWrong : ChangeSpec := { name := "fnNameSetKeepsEveryName", fn := fun _ => fun
  | [d1, d2] => { results := [.lit (.bool false)], args := [d1, d2] }
  | _ => none }
def FnNameSetKeepsEveryNameWrongFalsely : Prop := fnNameSetKeepsEveryNameRow.holds Try.pinned (OpenSpec.ofChange fnNameSetKeepsEveryNameWrong)

end Rows
end Go.Proofs.Qxb6605591a
