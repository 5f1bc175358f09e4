/-
  FnPadExact: the walk.
-/
import Derived.Test.Qxb6601962aUnpad
import Derived.BigQuiet
import Derived.WalkSmall
import Derived.Deep.QuietTactic
namespace Go.Proofs.Qxb6601962a.fnPadExact
open Go.RowKit
theorem zzb_yes (s : ByteArray) (w : World) (hs : s.size ≤ 1048576) :
    Calls Try.prog 7 #[.string s] w fun e w' => e = .returned (.bool true) ∧ w = w' := by
  go_enter Try.func7, Try.ntmps7
  go_wp2
  go_ret
  exact ⟨rfl, rfl⟩
theorem zzb_no (s : ByteArray) (w : World) (hs : ¬ s.size ≤ 1048576) (hm : s.size ≤ 9223372036854775807) :
    Calls Try.prog 7 #[.string s] w fun e w' => e = .returned (.bool false) ∧ w = w' := by
  go_enter Try.func7, Try.ntmps7
  go_wp2
  go_ret
  exact ⟨rfl, rfl⟩

set_option maxHeartbeats 1600000 in
theorem walk (a0 : ByteArray) (w0 : a0.size ≤ maxLen) (w : World) :
    Calls Try.prog 3 #[.string a0] w fun e w' => e = .returned (.bool true) ∧ Below w.heap.size w w' := by
  unfold maxLen at w0
  by_cases hs : a0.size ≤ 1048576
  · have hK := padK_bd a0.size
    have hK1 : (a0.size : Int) + (padK a0.size : Int) ≤ ((a0.size : Int) / 16 + 1) * 16 := by unfold padK; omega
    have hK2 : ((a0.size : Int) / 16 + 1) * 16 ≤ (a0.size : Int) + (padK a0.size : Int) := by unfold padK; omega
    go_enter Try.func3, Try.ntmps3
    go_wp2_with (first | (go_at_call 7; refine (zzb_yes _ _ hs).mono ?_; rintro e w1 ⟨rfl, rfl⟩) | (go_at_call 8; refine (zzpad_any _ _ hs).mono ?_; rintro e w1 ⟨rfl, hown, hb⟩))
    have HC := hide (own_cell hown)
    clear hown
    go_loopw [7] (fun i wr => ∃ m : Nat, m ≤ a0.size ∧ i = .int .i64 m ∧ ∃ q, wr = w1.drewN q) (fun i _ => a0.size - (intOf i).toNat)
    case atStart => exact ⟨0, Nat.zero_le _, rfl, 0, rfl⟩
    case round =>
      obtain ⟨m, hm, rfl, q, rfl⟩ := hrel
      by_cases hlt : m < a0.size
      · have hcm : w1.cell? ⟨w.heap.size, m, none⟩ = some (.int .u8 ((a0[m]'hlt).toNat : Int)) := by rw [HC.out m (by omega), padL_low a0 m hlt]
        go_wp2
        go_quiet (fail)
        go_wp2
        go_roundw
        case rel => exact ⟨m + 1, by omega, by go_num, _, rfl⟩
        case measure => simp [intOf]; omega
      · go_wp2
        go_loop [8] (fun i => ∃ m : Nat, a0.size ≤ m ∧ m ≤ a0.size + padK a0.size ∧ i = .int .i64 m) (fun i => a0.size + padK a0.size - (intOf i).toNat)
        case atStart => exact ⟨a0.size, Nat.le_refl _, by omega, rfl⟩
        case round =>
          obtain ⟨j, hj1, hj2, rfl⟩ := hrel
          by_cases hlt2 : j < a0.size + padK a0.size
          · have hcj : w1.cell? ⟨w.heap.size, j, none⟩ = some (.int .u8 (padK a0.size : Int)) := by rw [HC.out j (by omega), padL_high a0 j hj1 hlt2]
            go_wp2
            go_round
            case rel => exact ⟨j + 1, by omega, by omega, by go_num⟩
            case measure => simp [intOf]; omega
          · go_wp2
            go_ret
            exact ⟨rfl, below_drewN hb _⟩
  · go_enter Try.func3, Try.ntmps3
    go_wp2_with (go_at_call 7; refine (zzb_no _ _ hs w0).mono ?_; rintro e w1 ⟨rfl, rfl⟩)
    go_ret
    exact ⟨rfl, Below.refl _ _⟩

end Go.Proofs.Qxb6601962a.fnPadExact
