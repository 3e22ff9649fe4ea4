/-
  No cell of these rows narrows 'for every input' (looked for: loops, veiled, ifaces, maps, wideKeys, modest, calm, conditions, laid).
  DERIVED. THE GIVEN ROWS OF THIS SEAT. 4 by the template 'for every input the law returns true; each argument reads behind the call as it read before'; 0 by the template 'total and deterministic' (their statements: Qxb6613213aTotals.lean).
  GIVEN WITH THE SEED: the statements are not yours to turn. If you find one false, say at which input.
  Laid BY PROGRAM, IN A SANDBOX (cutbox-rows.mjs): the forced cells as the released guide's own fill.sh prints them over the translation b0e39bb047af1115… (all of the seat's roots in one cut). By AI agents, Wed Nov 11 2026. No macro, syntax, notation, axiom, sorry.
-/
import Derived.Test.Qxb6613213aChecked
import GoSem.Claim
import GoSem.ClaimJoined
import GoSem.ClaimMapViews
import Derived.JoinedTies
import Derived.KernelRfl
namespace Go.Proofs.Qxb6613213a
/- THE CELL 'sum', in the pinned program and in every row, IS THE sha256 OF THE DUMP (.gsa) THAT Qxb6613213aProg.lean LOADS. Nothing in Lean hashes anything: it is a label: what it is worth is what the hold of that sum in a sandbox is worth. -/
noncomputable def Try.pinned : Pinned := { name := "qxb6613213a", sum := "b0e39bb047af1115f30b67e2af7357693bf3c16af5e63ef56418d84f66c913a6", checked := Try.checked }
namespace Rows
def none {H : Type} : Left H := { results := [], args := [] }

/-- 'zzlaws_root_b1.FnUvarintLenDropsOneBytePerSevenBits': WHATEVER THE INPUT: true; the input reads as it did. -/
def fnUvarintLenDropsOneBytePerSevenBitsSpec : ChangeSpec := { name := "fnUvarintLenDropsOneBytePerSevenBits", fn := fun _ => fun
  | [d] => { results := [.lit (.bool true)], args := [d] }
  | _ => none }
def fnUvarintLenDropsOneBytePerSevenBitsRow : OpenClaim := { program := "qxb6613213a", sum := "b0e39bb047af1115f30b67e2af7357693bf3c16af5e63ef56418d84f66c913a6", func := "example.com/sluicegate/sluicegate/zzlaws_root_b1.FnUvarintLenDropsOneBytePerSevenBits", spec := "fnUvarintLenDropsOneBytePerSevenBits", apart := false }
def FnUvarintLenDropsOneBytePerSevenBitsSaid : Prop := fnUvarintLenDropsOneBytePerSevenBitsRow.holds Try.pinned (OpenSpec.ofChange fnUvarintLenDropsOneBytePerSevenBitsSpec)

/-- ITS FALSE NEIGHBOUR: 'it returns false'. Refute it at one input. -/
def fnUvarintLenDropsOneBytePerSevenBitsWrong : ChangeSpec := { name := "fnUvarintLenDropsOneBytePerSevenBits", fn := fun _ => fun
  | [d] => { results := [.lit (.bool false)], args := [d] }
  | _ => none }
def FnUvarintLenDropsOneBytePerSevenBitsWrongFalsely : Prop := fnUvarintLenDropsOneBytePerSevenBitsRow.holds Try.pinned (OpenSpec.ofChange fnUvarintLenDropsOneBytePerSevenBitsWrong)

/-- 'zzlaws_root_b1.FnUvarintLenOfAnOrIsTheLonger': WHATEVER THE INPUT: true; the input reads as it did. -/
def fnUvarintLenOfAnOrIsTheLongerSpec : ChangeSpec := { name := "fnUvarintLenOfAnOrIsTheLonger", fn := fun _ => fun
  | [d1, d2] => { results := [.lit (.bool true)], args := [d1, d2] }
  | _ => none }
def fnUvarintLenOfAnOrIsTheLongerRow : OpenClaim := { program := "qxb6613213a", sum := "b0e39bb047af1115f30b67e2af7357693bf3c16af5e63ef56418d84f66c913a6", func := "example.com/sluicegate/sluicegate/zzlaws_root_b1.FnUvarintLenOfAnOrIsTheLonger", spec := "fnUvarintLenOfAnOrIsTheLonger", apart := false }
def FnUvarintLenOfAnOrIsTheLongerSaid : Prop := fnUvarintLenOfAnOrIsTheLongerRow.holds Try.pinned (OpenSpec.ofChange fnUvarintLenOfAnOrIsTheLongerSpec)

/-- ITS FALSE NEIGHBOUR: 'it returns false'. Refute it at one input. -/
def fnUvarintLenOfAnOrIsTheLongerWrong : ChangeSpec := { name := "fnUvarintLenOfAnOrIsTheLonger", fn := fun _ => fun
  | [d1, d2] => { results := [.lit (.bool false)], args := [d1, d2] }
  | _ => none }
def FnUvarintLenOfAnOrIsTheLongerWrongFalsely : Prop := fnUvarintLenOfAnOrIsTheLongerRow.holds Try.pinned (OpenSpec.ofChange fnUvarintLenOfAnOrIsTheLongerWrong)

/-- 'zzlaws_root_b1.FnLineAtAddsOverAnyCut': WHATEVER THE INPUT: true; the input reads as it did. -/
def fnLineAtAddsOverAnyCutSpec : ChangeSpec := { name := "fnLineAtAddsOverAnyCut", fn := fun _ => fun
  | [d1, d2, d3] => { results := [.lit (.bool true)], args := [d1, d2, d3] }
  | _ => none }
def fnLineAtAddsOverAnyCutRow : OpenClaim := { program := "qxb6613213a", sum := "b0e39bb047af1115f30b67e2af7357693bf3c16af5e63ef56418d84f66c913a6", func := "example.com/sluicegate/sluicegate/zzlaws_root_b1.FnLineAtAddsOverAnyCut", spec := "fnLineAtAddsOverAnyCut", inPlace := ["internal/bytealg.Count", "internal/bytealg.IndexByte", "internal/bytealg.Index"], named := ["internal/bytealg.MaxLen"], apart := false }
def FnLineAtAddsOverAnyCutSaid : Prop := fnLineAtAddsOverAnyCutRow.holds Try.pinned (OpenSpec.ofChange fnLineAtAddsOverAnyCutSpec)

/-- ITS FALSE NEIGHBOUR: 'it returns false'. Refute it at one input. -/
def fnLineAtAddsOverAnyCutWrong : ChangeSpec := { name := "fnLineAtAddsOverAnyCut", fn := fun _ => fun
  | [d1, d2, d3] => { results := [.lit (.bool false)], args := [d1, d2, d3] }
  | _ => none }
def FnLineAtAddsOverAnyCutWrongFalsely : Prop := fnLineAtAddsOverAnyCutRow.holds Try.pinned (OpenSpec.ofChange fnLineAtAddsOverAnyCutWrong)

/-- 'zzlaws_root_b1.FnLineAtStepsOnlyAtNewlines': WHATEVER THE INPUT: true; the input reads as it did. -/
def fnLineAtStepsOnlyAtNewlinesSpec : ChangeSpec := { name := "fnLineAtStepsOnlyAtNewlines", fn := fun _ => fun
  | [d1, d2] => { results := [.lit (.bool true)], args := [d1, d2] }
  | _ => none }
def fnLineAtStepsOnlyAtNewlinesRow : OpenClaim := { program := "qxb6613213a", sum := "b0e39bb047af1115f30b67e2af7357693bf3c16af5e63ef56418d84f66c913a6", func := "example.com/sluicegate/sluicegate/zzlaws_root_b1.FnLineAtStepsOnlyAtNewlines", spec := "fnLineAtStepsOnlyAtNewlines", inPlace := ["internal/bytealg.Count", "internal/bytealg.IndexByte", "internal/bytealg.Index"], named := ["internal/bytealg.MaxLen"], apart := false }
def FnLineAtStepsOnlyAtNewlinesSaid : Prop := fnLineAtStepsOnlyAtNewlinesRow.holds Try.pinned (OpenSpec.ofChange fnLineAtStepsOnlyAtNewlinesSpec)

/-- ITS FALSE NEIGHBOUR: 'it returns false'. Refute it at one input. -/
def fnLineAtStepsOnlyAtNewlinesWrong : ChangeSpec := { name := "fnLineAtStepsOnlyAtNewlines", fn := fun _ => fun
  | [d1, d2] => { results := [.lit (.bool false)], args := [d1, d2] }
  | _ => none }
def FnLineAtStepsOnlyAtNewlinesWrongFalsely : Prop := fnLineAtStepsOnlyAtNewlinesRow.holds Try.pinned (OpenSpec.ofChange fnLineAtStepsOnlyAtNewlinesWrong)

end Rows
end Go.Proofs.Qxb6613213a
