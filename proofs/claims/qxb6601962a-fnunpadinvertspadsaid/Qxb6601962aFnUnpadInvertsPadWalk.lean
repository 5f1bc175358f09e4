/-
  FnUnpadInvertsPad: the walk.
-/
import Derived.Test.Qxb6601962aUnpad
namespace Go.Proofs.Qxb6601962a.fnUnpadInvertsPad
open Go.RowKit
theorem zzb_yes (s : ByteArray) (w : World) (hs : s.size ≤ 1048576) :
    Calls Try.prog 9 #[.string s] w fun e w' => e = .returned (.bool true) ∧ w = w' := by
  go_enter Try.func9, Try.ntmps9
  go_wp2
  go_ret
  exact ⟨rfl, rfl⟩
theorem zzb_no (s : ByteArray) (w : World) (hs : ¬ s.size ≤ 1048576) (hm : s.size ≤ 9223372036854775807) :
    Calls Try.prog 9 #[.string s] w fun e w' => e = .returned (.bool false) ∧ w = w' := by
  go_enter Try.func9, Try.ntmps9
  go_wp2
  go_ret
  exact ⟨rfl, rfl⟩

theorem strOfNums_nums (s : ByteArray) : strOfNums (nums s) = s := by
  unfold strOfNums nums
  rw [List.map_map]
  have : ((fun n : Int => UInt8.ofNat n.toNat) ∘ fun b : UInt8 => (b.toNat : Int)) = id := by
    funext b; simp
  rw [this, List.map_id, Array.toArray_toList]
theorem ends_pad (s : ByteArray) : Ends (padL s) (padK s.size) := by
  have := padK_bd s.size
  refine ⟨this.1, this.2, fun j h1 h2 => ?_⟩
  rw [padL_length] at h1 h2
  exact padL_high s j (by omega) h2
theorem take_pad (s : ByteArray) : strOfNums ((padL s).take (s.size + padK s.size - padK s.size)) = s := by
  rw [Nat.add_sub_cancel]
  unfold padL
  rw [← nums_length s, List.take_left, strOfNums_nums]

theorem unpad_pad (s : ByteArray) (g : Nat) (w : World) (hs : s.size ≤ 1048576)
    (hc : ∀ j, j < s.size + padK s.size → w.cell? ⟨g, j, none⟩ = some (.int .u8 ((padL s).getD j 0))) :
    Calls Try.prog 10 #[.slice (some ⟨g, 0, none⟩) (s.size + padK s.size) (s.size + padK s.size)] w fun e w' =>
      e = .returned (.tuple #[.string s, .bool true]) ∧ w = w' := by
  have h := zzunpad_yes (padL s) g (s.size + padK s.size) (padK s.size) w (padL_length s) (by unfold padK; omega) (by have := padK_bd s.size; omega) hc (ends_pad s)
  rw [take_pad] at h
  exact h

set_option maxHeartbeats 1600000 in
theorem walk (a0 : ByteArray) (w0 : a0.size ≤ maxLen) (w : World) :
    Calls Try.prog 4 #[.string a0] w fun e w' => e = .returned (.bool true) ∧ Below w.heap.size w w' := by
  unfold maxLen at w0
  by_cases hs : a0.size ≤ 1048576
  · have hK := padK_bd a0.size
    go_enter Try.func4, Try.ntmps4
    go_wp2_with (first | (go_at_call 9; refine (zzb_yes _ _ hs).mono ?_; rintro e w1 ⟨rfl, rfl⟩) | (go_at_call 8; refine (zzpad_any _ _ hs).mono ?_; rintro e w1 ⟨rfl, hown, hb⟩) | (go_at_call 10; refine (unpad_pad a0 _ _ hs (own_cell hown)).mono ?_; rintro e w2 ⟨rfl, rfl⟩))
    go_ret
    exact ⟨by simp, hb⟩
  · go_enter Try.func4, Try.ntmps4
    go_wp2_with (go_at_call 9; refine (zzb_no _ _ hs w0).mono ?_; rintro e w1 ⟨rfl, rfl⟩)
    go_ret
    exact ⟨rfl, Below.refl _ _⟩
end Go.Proofs.Qxb6601962a.fnUnpadInvertsPad
