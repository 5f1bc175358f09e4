/-
  zzSplitSum: its contract.
-/
import Derived.Test.Qxb6602328aHelp
import Derived.Laws.BitsLemmas
namespace Go.Proofs.Qxb6602328a
open Go.RowKit

theorem wraps_i64 (n : Int) (h₀ : 0 ≤ n) (h₁ : n < 2 ^ 63) : IntKind.i64.wrap n = n := by rw [IntKind.wrap_i64]; omega
theorem and_low (y : Int) (h₀ : 0 ≤ y) (h₁ : y ≤ 281474976710656) : bits .and .i64 y 4294967295 = y % 4294967296 :=
  bits_mask .i64 63 (by decide) wraps_i64 32 (by decide) y h₀ (by omega)

theorem tot_ediv_split (l : List Int) : tot l = 4294967296 * tot (l.map (· / 4294967296)) + tot (l.map (· % 4294967296)) := by
  induction l with
  | nil => simp [tot]
  | cons x xs ih => simp only [List.map_cons, tot]; omega
theorem tot_ediv_bd (l : List Int) (h : ∀ q ∈ l, -4611686018427387904 ≤ q ∧ q ≤ 4611686018427387904) : -(1073741824 * (l.length : Int)) ≤ tot (l.map (· / 4294967296)) ∧ tot (l.map (· / 4294967296)) ≤ 1073741824 * (l.length : Int) := by
  induction l with
  | nil => simp [tot]
  | cons x xs ih =>
    have h1 := h x (by simp)
    have h2 := ih (fun q hq => h q (by simp [hq]))
    simp only [List.map_cons, tot, List.length_cons]; omega
theorem tot_emod_bd (l : List Int) : 0 ≤ tot (l.map (· % 4294967296)) ∧ tot (l.map (· % 4294967296)) ≤ 4294967296 * (l.length : Int) := by
  induction l with
  | nil => simp [tot]
  | cons x xs ih => simp only [List.map_cons, tot, List.length_cons]; omega
theorem ret_ints {k k' : IntKind} {a b c d : Int} (h : a = b) (h' : c = d) : Ending.returned (.tuple #[.int k a, .int k' c]) = .returned (.tuple #[.int k b, .int k' d]) := by rw [h, h']

set_option maxHeartbeats 800000 in
theorem split_any (g n : Nat) (qs : List Int) (w : World) (hn : n ≤ 65536) (hl : qs.length = n)
    (hc : ∀ j, j < n → w.cell? ⟨g, j, none⟩ = some (.int .i64 (qs.getD j 0))) (hqs : ∀ q ∈ qs, -4611686018427387904 ≤ q ∧ q ≤ 4611686018427387904) :
    Calls Try.prog 10 #[.slice (some ⟨g, 0, none⟩) n n] w fun e w' => e = .returned (.tuple #[.int .i64 (tot qs / 4294967296), .int .i64 (tot qs % 4294967296)]) ∧ w = w' := by
  have HC := hide hc
  have HQ := hide hqs
  clear hc hqs
  go_enter Try.func10, Try.ntmps10
  go_wp2
  go_loop [4, 5, 6] (fun h l i => ∃ (k : Nat) (x y : Int), k ≤ n ∧ i = .int .i64 k ∧ h = .int .i64 x ∧ l = .int .i64 y ∧ x = tot ((qs.take k).map (· / 4294967296)) ∧ y = tot ((qs.take k).map (· % 4294967296))) (fun _ _ i => n - (intOf i).toNat)
  case atStart => exact ⟨0, 0, 0, Nat.zero_le _, rfl, rfl, rfl, by simp [tot], by simp [tot]⟩
  case round =>
    obtain ⟨k, x, y, hk, rfl, rfl, rfl, hx, hy⟩ := hrel
    have HX := hide hx
    have HY := hide hy
    have hlt : (qs.take k).length ≤ n := by simp; omega
    have hxb : -70368744177664 ≤ x ∧ x ≤ 70368744177664 := by
      have := tot_ediv_bd (qs.take k) (fun q hq => HQ.out q (List.mem_of_mem_take hq))
      rw [← hx] at this; omega
    have hyb : 0 ≤ y ∧ y ≤ 281474976710656 := by
      have := tot_emod_bd (qs.take k)
      rw [← hy] at this; omega
    clear hx hy hlt
    by_cases hlt : k < n
    · obtain ⟨u, hu⟩ : ∃ u, u = qs.getD k 0 := ⟨_, rfl⟩
      have hck : w.cell? ⟨g, k, none⟩ = some (.int .i64 u) := by rw [HC.out k hlt, hu]
      have hub : -4611686018427387904 ≤ u ∧ u ≤ 4611686018427387904 := by rw [hu]; exact HQ.out _ (getD_mem (by omega))
      have HU := hide hu
      clear hu
      go_wp2
      go_round
      case rel =>
        refine ⟨k + 1, _, _, by omega, by go_num, rfl, rfl, by rw [tot_map_take _ _ _ (by omega), ← HX.out, ← HU.out], ?_⟩
        rw [tot_map_take _ _ _ (by omega), ← HY.out, ← HU.out]
        have := Int.emod_add_mul_ediv u 4294967296
        omega
      case measure => simp [intOf]; omega
    · go_wp2
      go_ret2
      have h1 := HX.out
      have h2 := HY.out
      rw [List.take_of_length_le (by omega)] at h1 h2
      have h3 := tot_ediv_split qs
      rw [← h1, ← h2] at h3
      have h4 := and_low y hyb.1 hyb.2
      exact ⟨ret_ints (by omega) (by rw [h4]; omega), rfl⟩
end Go.Proofs.Qxb6602328a
