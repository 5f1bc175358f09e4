/-
  slices.Min, slices.Max at []int64; consensus.floorDiv: contracts.
-/
import Derived.Test.Qxb6602328aRows
import Derived.Test.Qxb6602328aMath
import Derived.WalkKit
import Derived.ProofKit
namespace Go.Proofs.Qxb6602328a
open Go.RowKit

theorem hide {p : Prop} (h : p) : Hid p := h

theorem ret_int {k : IntKind} {a b : Int} (h : a = b) : Ending.returned (.int k a) = .returned (.int k b) := by rw [h]

theorem floorDiv_any (a b : Int) (w : World) (hb : 1 ≤ b) (hb2 : b ≤ 65536) (ha : -4294967296 ≤ a) (ha2 : a ≤ 4294967296) :
    Calls Try.prog 13 #[.int .i64 a, .int .i64 b] w fun e w' => e = .returned (.int .i64 (a / b)) ∧ w = w' := by
  have h1 := tdiv_bd a b 4294967296 hb ha ha2
  have h2 := tmod_bd a b hb
  go_enter Try.func13, Try.ntmps13
  go_wp2
  · go_ret
    exact ⟨ret_int (floor_neg a b hb (by assumption)), rfl⟩
  · go_ret
    exact ⟨ret_int (floor_pos a b hb (by assumption)), rfl⟩

theorem min_any (g n : Nat) (qs : List Int) (w : World) (h1 : 1 ≤ n) (hn : n ≤ 65536) (hq : qs.length = n)
    (hc : ∀ j, j < n → w.cell? ⟨g, j, none⟩ = some (.int .i64 (qs.getD j 0))) :
    Calls Try.prog 11 #[.slice (some ⟨g, 0, none⟩) n n] w fun e w' => ∃ m, IsMin qs m ∧ e = .returned (.int .i64 m) ∧ w = w' := by
  have HC := hide hc
  have hc0 := hc 0 (by omega)
  obtain ⟨y0, hy0⟩ : ∃ y, y = qs.getD 0 0 := ⟨_, rfl⟩
  rw [← hy0] at hc0
  have HY0 := hide hy0
  clear hc hy0
  go_enter Try.func11, Try.ntmps11
  go_wp2
  go_loop [3, 4] (fun m i => ∃ (k : Nat) (z : Int), 1 ≤ k ∧ k ≤ n ∧ i = .int .i64 k ∧ m = .int .i64 z ∧ IsMin (qs.take k) z) (fun _ i => n - (intOf i).toNat)
  case atStart => exact ⟨1, y0, by omega, h1, rfl, rfl, by rw [take_one qs (by omega), ← HY0.out]; simp [IsMin]⟩
  case round =>
    obtain ⟨k, z, hk1, hk, rfl, rfl, hz⟩ := hrel
    have HZ := hide hz
    clear hz
    by_cases hlt : k < n
    · obtain ⟨y, hy⟩ : ∃ y, y = qs.getD k 0 := ⟨_, rfl⟩
      have hck : w.cell? ⟨g, k, none⟩ = some (.int .i64 y) := by rw [HC.out k hlt, hy]
      have HY := hide hy
      clear hy
      go_wp2
      go_round
      case rel => exact ⟨k + 1, _, by omega, by omega, by go_num, rfl, by rw [take_snoc qs k (by omega), ← HY.out]; exact isMin_step HZ.out⟩
      case measure => simp [intOf]; omega
    · go_wp2
      go_ret
      refine ⟨z, ?_, rfl, rfl⟩
      have := HZ.out
      rwa [List.take_of_length_le (by omega)] at this

theorem max_any (g n : Nat) (qs : List Int) (w : World) (h1 : 1 ≤ n) (hn : n ≤ 65536) (hq : qs.length = n)
    (hc : ∀ j, j < n → w.cell? ⟨g, j, none⟩ = some (.int .i64 (qs.getD j 0))) :
    Calls Try.prog 12 #[.slice (some ⟨g, 0, none⟩) n n] w fun e w' => ∃ m, IsMax qs m ∧ e = .returned (.int .i64 m) ∧ w = w' := by
  have HC := hide hc
  have hc0 := hc 0 (by omega)
  obtain ⟨y0, hy0⟩ : ∃ y, y = qs.getD 0 0 := ⟨_, rfl⟩
  rw [← hy0] at hc0
  have HY0 := hide hy0
  clear hc hy0
  go_enter Try.func12, Try.ntmps12
  go_wp2
  go_loop [3, 4] (fun m i => ∃ (k : Nat) (z : Int), 1 ≤ k ∧ k ≤ n ∧ i = .int .i64 k ∧ m = .int .i64 z ∧ IsMax (qs.take k) z) (fun _ i => n - (intOf i).toNat)
  case atStart => exact ⟨1, y0, by omega, h1, rfl, rfl, by rw [take_one qs (by omega), ← HY0.out]; simp [IsMax]⟩
  case round =>
    obtain ⟨k, z, hk1, hk, rfl, rfl, hz⟩ := hrel
    have HZ := hide hz
    clear hz
    by_cases hlt : k < n
    · obtain ⟨y, hy⟩ : ∃ y, y = qs.getD k 0 := ⟨_, rfl⟩
      have hck : w.cell? ⟨g, k, none⟩ = some (.int .i64 y) := by rw [HC.out k hlt, hy]
      have HY := hide hy
      clear hy
      go_wp2
      go_round
      case rel => exact ⟨k + 1, _, by omega, by omega, by go_num, rfl, by rw [take_snoc qs k (by omega), ← HY.out]; exact isMax_step HZ.out⟩
      case measure => simp [intOf]; omega
    · go_wp2
      go_ret
      refine ⟨z, ?_, rfl, rfl⟩
      have := HZ.out
      rwa [List.take_of_length_le (by omega)] at this
end Go.Proofs.Qxb6602328a
