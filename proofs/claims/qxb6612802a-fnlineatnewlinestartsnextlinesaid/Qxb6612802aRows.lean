/-
  No cell of these rows narrows 'for every input' (looked for: loops, veiled, ifaces, maps, wideKeys, modest, calm, conditions, laid).
  DERIVED. THE GIVEN ROWS OF THIS SEAT. 3 by the template 'for every input the law returns true; each argument reads behind the call as it read before'; 0 by the template 'total and deterministic' (their statements: Qxb6612802aTotals.lean).
  GIVEN WITH THE SEED: the statements are not yours to turn. If you find one false, say at which input.
  Laid BY PROGRAM, IN A SANDBOX (cutbox-rows.mjs): the forced cells as the released guide's own fill.sh prints them over the translation df10f05591871ea0… (all of the seat's roots in one cut). By AI agents, Wed Nov 11 2026. No macro, syntax, notation, axiom, sorry.
-/
import Derived.Test.Qxb6612802aChecked
import GoSem.Claim
import GoSem.ClaimJoined
import GoSem.ClaimMapViews
import Derived.JoinedTies
import Derived.KernelRfl
namespace Go.Proofs.Qxb6612802a
/- THE CELL 'sum', in the pinned program and in every row, IS THE sha256 OF THE DUMP (.gsa) THAT Qxb6612802aProg.lean LOADS. Nothing in Lean hashes anything: it is a label: what it is worth is what the hold of that sum in a sandbox is worth. -/
noncomputable def Try.pinned : Pinned := { name := "qxb6612802a", sum := "df10f05591871ea07d173265cea46208dc9e5f90914fe4b0bf134049a2f2d4f9", checked := Try.checked }
namespace Rows
def none {H : Type} : Left H := { results := [], args := [] }

/-- 'zzlaws_internal_strictjson_b1.FnLineAtCutAddsLines': WHATEVER THE INPUT: true; the input reads as it did. -/
def fnLineAtCutAddsLinesSpec : ChangeSpec := { name := "fnLineAtCutAddsLines", fn := fun _ => fun
  | [d1, d2, d3] => { results := [.lit (.bool true)], args := [d1, d2, d3] }
  | _ => none }
def fnLineAtCutAddsLinesRow : OpenClaim := { program := "qxb6612802a", sum := "df10f05591871ea07d173265cea46208dc9e5f90914fe4b0bf134049a2f2d4f9", func := "example.com/kleis/kleis/zzlaws_internal_strictjson_b1.FnLineAtCutAddsLines", spec := "fnLineAtCutAddsLines", inPlace := ["internal/bytealg.Count", "internal/bytealg.IndexByte", "internal/bytealg.Index"], named := ["internal/bytealg.MaxLen"], apart := false }
def FnLineAtCutAddsLinesSaid : Prop := fnLineAtCutAddsLinesRow.holds Try.pinned (OpenSpec.ofChange fnLineAtCutAddsLinesSpec)

/-- ITS FALSE NEIGHBOUR: 'it returns false'. Refute it at one input. -/
def fnLineAtCutAddsLinesWrong : ChangeSpec := { name := "fnLineAtCutAddsLines", fn := fun _ => fun
  | [d1, d2, d3] => { results := [.lit (.bool false)], args := [d1, d2, d3] }
  | _ => none }
def FnLineAtCutAddsLinesWrongFalsely : Prop := fnLineAtCutAddsLinesRow.holds Try.pinned (OpenSpec.ofChange fnLineAtCutAddsLinesWrong)

/-- 'zzlaws_internal_strictjson_b1.FnLineAtNewlineStartsNextLine': WHATEVER THE INPUT: true; the input reads as it did. -/
def fnLineAtNewlineStartsNextLineSpec : ChangeSpec := { name := "fnLineAtNewlineStartsNextLine", fn := fun _ => fun
  | [d1, d2, d3, d4] => { results := [.lit (.bool true)], args := [d1, d2, d3, d4] }
  | _ => none }
def fnLineAtNewlineStartsNextLineRow : OpenClaim := { program := "qxb6612802a", sum := "df10f05591871ea07d173265cea46208dc9e5f90914fe4b0bf134049a2f2d4f9", func := "example.com/kleis/kleis/zzlaws_internal_strictjson_b1.FnLineAtNewlineStartsNextLine", spec := "fnLineAtNewlineStartsNextLine", inPlace := ["internal/bytealg.Count", "internal/bytealg.IndexByte", "internal/bytealg.Index"], named := ["internal/bytealg.MaxLen"], apart := false }
def FnLineAtNewlineStartsNextLineSaid : Prop := fnLineAtNewlineStartsNextLineRow.holds Try.pinned (OpenSpec.ofChange fnLineAtNewlineStartsNextLineSpec)

/-- ITS FALSE NEIGHBOUR: 'it returns false'. Refute it at one input. -/
def fnLineAtNewlineStartsNextLineWrong : ChangeSpec := { name := "fnLineAtNewlineStartsNextLine", fn := fun _ => fun
  | [d1, d2, d3, d4] => { results := [.lit (.bool false)], args := [d1, d2, d3, d4] }
  | _ => none }
def FnLineAtNewlineStartsNextLineWrongFalsely : Prop := fnLineAtNewlineStartsNextLineRow.holds Try.pinned (OpenSpec.ofChange fnLineAtNewlineStartsNextLineWrong)

/-- 'zzlaws_internal_strictjson_b1.FnWithinFoldBuildsDottedPath': WHATEVER THE INPUT: true; the input reads as it did. -/
def fnWithinFoldBuildsDottedPathSpec : ChangeSpec := { name := "fnWithinFoldBuildsDottedPath", fn := fun _ => fun
  | [d1, d2] => { results := [.lit (.bool true)], args := [d1, d2] }
  | _ => none }
def fnWithinFoldBuildsDottedPathRow : OpenClaim := { program := "qxb6612802a", sum := "df10f05591871ea07d173265cea46208dc9e5f90914fe4b0bf134049a2f2d4f9", func := "example.com/kleis/kleis/zzlaws_internal_strictjson_b1.FnWithinFoldBuildsDottedPath", spec := "fnWithinFoldBuildsDottedPath", apart := false }
def FnWithinFoldBuildsDottedPathSaid : Prop := fnWithinFoldBuildsDottedPathRow.holds Try.pinned (OpenSpec.ofChange fnWithinFoldBuildsDottedPathSpec)

/-- ITS FALSE NEIGHBOUR: 'it returns false'. Refute it at one input. -/
def fnWithinFoldBuildsDottedPathWrong : ChangeSpec := { name := "fnWithinFoldBuildsDottedPath", fn := fun _ => fun
  | [d1, d2] => { results := [.lit (.bool false)], args := [d1, d2] }
  | _ => none }
def FnWithinFoldBuildsDottedPathWrongFalsely : Prop := fnWithinFoldBuildsDottedPathRow.holds Try.pinned (OpenSpec.ofChange fnWithinFoldBuildsDottedPathWrong)

end Rows
end Go.Proofs.Qxb6612802a
