/-
  No cell of these rows narrows 'for every input' (looked for: loops, veiled, ifaces, maps, wideKeys, modest, calm, conditions, laid).
  DERIVED. THE GIVEN ROWS OF THIS SEAT. 4 by the template 'for every input the law returns true; each argument reads behind the call as it read before'; 0 by the template 'total and deterministic' (their statements: Qxb6601962aTotals.lean).
  GIVEN WITH THE SEED: the statements are not yours to turn. If you find one false, say at which input.
  Laid BY PROGRAM, IN A SANDBOX (cutbox-rows.mjs): the forced cells as the released guide's own fill.sh prints them over the translation 8a7f47c9619642b4… (all of the seat's roots in one cut). By AI agents, Wed Nov 11 2026. No macro, syntax, notation, axiom, sorry.
-/
import Derived.Test.Qxb6601962aChecked
import GoSem.Claim
import GoSem.ClaimJoined
import GoSem.ClaimMapViews
import Derived.JoinedTies
import Derived.KernelRfl
namespace Go.Proofs.Qxb6601962a
/- THE CELL 'sum', in the pinned program and in every row, IS THE sha256 OF THE DUMP (.gsa) THAT Qxb6601962aProg.lean LOADS. Nothing in Lean hashes anything: it is a label: what it is worth is what the hold of that sum in a sandbox is worth. -/
noncomputable def Try.pinned : Pinned := { name := "qxb6601962a", sum := "8a7f47c9619642b4f6b523beee0cca4ebb293d3248fa9fcbf9f39222b00ed29b", checked := Try.checked }
namespace Rows
def none {H : Type} : Left H := { results := [], args := [] }

/-- 'zzlaws_names_b1.FnPadExact': WHATEVER THE INPUT: true; the input reads as it did. -/
def fnPadExactSpec : ChangeSpec := { name := "fnPadExact", fn := fun _ => fun
  | [d] => { results := [.lit (.bool true)], args := [d] }
  | _ => none }
def fnPadExactRow : OpenClaim := { program := "qxb6601962a", sum := "8a7f47c9619642b4f6b523beee0cca4ebb293d3248fa9fcbf9f39222b00ed29b", func := "example.com/sealed-by-block/sealed-by-block/zzlaws_names_b1.FnPadExact", spec := "fnPadExact", apart := false }
def FnPadExactSaid : Prop := fnPadExactRow.holds Try.pinned (OpenSpec.ofChange fnPadExactSpec)

/-- ITS FALSE NEIGHBOUR: 'it returns false'. Refute it at one input. -/
def fnPadExactWrong : ChangeSpec := { name := "fnPadExact", fn := fun _ => fun
  | [d] => { results := [.lit (.bool false)], args := [d] }
  | _ => none }
def FnPadExactWrongFalsely : Prop := fnPadExactRow.holds Try.pinned (OpenSpec.ofChange fnPadExactWrong)

/-- 'zzlaws_names_b1.FnUnpadInvertsPad': WHATEVER THE INPUT: true; the input reads as it did. -/
def fnUnpadInvertsPadSpec : ChangeSpec := { name := "fnUnpadInvertsPad", fn := fun _ => fun
  | [d] => { results := [.lit (.bool true)], args := [d] }
  | _ => none }
def fnUnpadInvertsPadRow : OpenClaim := { program := "qxb6601962a", sum := "8a7f47c9619642b4f6b523beee0cca4ebb293d3248fa9fcbf9f39222b00ed29b", func := "example.com/sealed-by-block/sealed-by-block/zzlaws_names_b1.FnUnpadInvertsPad", spec := "fnUnpadInvertsPad", apart := false }
def FnUnpadInvertsPadSaid : Prop := fnUnpadInvertsPadRow.holds Try.pinned (OpenSpec.ofChange fnUnpadInvertsPadSpec)

/-- ITS FALSE NEIGHBOUR: 'it returns false'. Refute it at one input. -/
def fnUnpadInvertsPadWrong : ChangeSpec := { name := "fnUnpadInvertsPad", fn := fun _ => fun
  | [d] => { results := [.lit (.bool false)], args := [d] }
  | _ => none }
def FnUnpadInvertsPadWrongFalsely : Prop := fnUnpadInvertsPadRow.holds Try.pinned (OpenSpec.ofChange fnUnpadInvertsPadWrong)

/-- 'zzlaws_names_b1.FnUnpadExact': WHATEVER THE INPUT: true; the input reads as it did. -/
def fnUnpadExactSpec : ChangeSpec := { name := "fnUnpadExact", fn := fun _ => fun
  | [d] => { results := [.lit (.bool true)], args := [d] }
  | _ => none }
def fnUnpadExactRow : OpenClaim := { program := "qxb6601962a", sum := "8a7f47c9619642b4f6b523beee0cca4ebb293d3248fa9fcbf9f39222b00ed29b", func := "example.com/sealed-by-block/sealed-by-block/zzlaws_names_b1.FnUnpadExact", spec := "fnUnpadExact", apart := false }
def FnUnpadExactSaid : Prop := fnUnpadExactRow.holds Try.pinned (OpenSpec.ofChange fnUnpadExactSpec)

/-- ITS FALSE NEIGHBOUR: 'it returns false'. Refute it at one input. -/
def fnUnpadExactWrong : ChangeSpec := { name := "fnUnpadExact", fn := fun _ => fun
  | [d] => { results := [.lit (.bool false)], args := [d] }
  | _ => none }
def FnUnpadExactWrongFalsely : Prop := fnUnpadExactRow.holds Try.pinned (OpenSpec.ofChange fnUnpadExactWrong)

/-- 'zzlaws_names_b1.FnPadInvertsUnpad': WHATEVER THE INPUT: true; the input reads as it did. -/
def fnPadInvertsUnpadSpec : ChangeSpec := { name := "fnPadInvertsUnpad", fn := fun _ => fun
  | [d] => { results := [.lit (.bool true)], args := [d] }
  | _ => none }
def fnPadInvertsUnpadRow : OpenClaim := { program := "qxb6601962a", sum := "8a7f47c9619642b4f6b523beee0cca4ebb293d3248fa9fcbf9f39222b00ed29b", func := "example.com/sealed-by-block/sealed-by-block/zzlaws_names_b1.FnPadInvertsUnpad", spec := "fnPadInvertsUnpad", apart := false }
def FnPadInvertsUnpadSaid : Prop := fnPadInvertsUnpadRow.holds Try.pinned (OpenSpec.ofChange fnPadInvertsUnpadSpec)

/-- ITS FALSE NEIGHBOUR: 'it returns false'. Refute it at one input. -/
def fnPadInvertsUnpadWrong : ChangeSpec := { name := "fnPadInvertsUnpad", fn := fun _ => fun
  | [d] => { results := [.lit (.bool false)], args := [d] }
  | _ => none }
def FnPadInvertsUnpadWrongFalsely : Prop := fnPadInvertsUnpadRow.holds Try.pinned (OpenSpec.ofChange fnPadInvertsUnpadWrong)

end Rows
end Go.Proofs.Qxb6601962a
