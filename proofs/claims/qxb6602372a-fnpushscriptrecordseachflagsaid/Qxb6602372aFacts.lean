/-
  Three closed facts of the row's step, which read the head of the program's text, by the list of its signs and not by the string's own decoding (that takes the kernel some 10 GB here).
-/
import Derived.Test.Qxb6602372aRows
import Derived.JoinedOf
import Derived.KernelRfl
namespace Go.Proofs.Qxb6602372a
open Go

set_option maxRecDepth 1000000 in
theorem head_signs : ∃ l, Try.pinned.checked.prog.initOrder = String.ofList l ∧ (behindMainWord (wordsSigns l)).head? = some ['c', 'u', 't'] := ⟨_, rfl, by kernel_rfl⟩
theorem head_cut : ∃ R, behindMainWord (wordsSigns Try.pinned.checked.prog.initOrder.toList) = ['c', 'u', 't'] :: R := by
  obtain ⟨l, e, h⟩ := head_signs
  rw [e, String.toList_ofList]
  generalize behindMainWord (wordsSigns l) = ws at h
  cases ws with
  | nil => simp at h
  | cons a b => simp at h; exact ⟨b, by rw [h]⟩
theorem strip_cut (R : List (List Char)) : stripLifts liftWords (['c', 'u', 't'] :: R) = ([], ['c', 'u', 't'] :: R) := by kernel_rfl
theorem no_later : Try.pinned.checked.prog.laysLater = false := by kernel_rfl
theorem no_reflect : Try.pinned.checked.prog.bearsReflect = false := by kernel_rfl
theorem door_fits : Try.pinned.checked.prog.doorFits [] = true := by kernel_rfl

theorem may_of (P : Program) (R : List (List Char)) (h : behindMainWord (wordsSigns P.initOrder.toList) = ['c', 'u', 't'] :: R) (h2 : P.laysLater = false) (h3 : P.bearsReflect = false) (h4 : P.doorFits [] = true) : P.mayEnter = true := by
  unfold Program.mayEnter
  rw [h]
  simp only [strip_cut R, h2, h3, h4]
  rfl
theorem lifts_of (P : Program) (R : List (List Char)) (h : behindMainWord (wordsSigns P.initOrder.toList) = ['c', 'u', 't'] :: R) : P.liftsFinal = false := by
  unfold Program.liftsFinal Program.headLifts
  rw [h]
  simp only [strip_cut R]
  rfl
theorem make_of (P : Program) (R : List (List Char)) (h : behindMainWord (wordsSigns P.initOrder.toList) = ['c', 'u', 't'] :: R) : P.make = some .cut := by
  unfold Program.make
  rw [h]
  rfl
theorem may : Try.pinned.checked.prog.mayEnter = true := by obtain ⟨R, h⟩ := head_cut; exact may_of _ R h no_later no_reflect door_fits
theorem lifts : Try.pinned.checked.prog.liftsFinal = false := by obtain ⟨R, h⟩ := head_cut; exact lifts_of _ R h
theorem made : Try.pinned.checked.prog.make = some .cut := by obtain ⟨R, h⟩ := head_cut; exact make_of _ R h

theorem closed9 : joinedFacts Try.pinned.checked.prog 9 Try.f9 Rows.fnPushSetsOnlyTheNewBitSpec Rows.fnPushSetsOnlyTheNewBitRow = true := by
  unfold joinedFacts
  rw [may, lifts, made]
  kernel_rfl
theorem closed10 : joinedFacts Try.pinned.checked.prog 10 Try.f10 Rows.fnPushScriptRecordsEachFlagSpec Rows.fnPushScriptRecordsEachFlagRow = true := by
  unfold joinedFacts
  rw [may, lifts, made]
  kernel_rfl
end Go.Proofs.Qxb6602372a
