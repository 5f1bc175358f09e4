/-
  names.unpad, names.ZZunpad: contracts.
-/
import Derived.Test.Qxb6601962aPad
import Derived.Laws.BytesArg
namespace Go.Proofs.Qxb6601962a
open Go.RowKit

/-- the bytes end in the padding of k bytes -/
def Ends (zs : List Int) (k : Nat) : Prop := 1 ≤ k ∧ k ≤ 16 ∧ ∀ j, zs.length - k ≤ j → j < zs.length → zs.getD j 0 = (k : Int)

theorem getD_rng {zs : List Int} {lo hi : Int} (hr : ∀ z ∈ zs, lo ≤ z ∧ z ≤ hi) (j : Nat) (h : j < zs.length) : lo ≤ zs.getD j 0 ∧ zs.getD j 0 ≤ hi := by
  have e : zs.getD j 0 = zs[j] := by simp [List.getD, h]
  rw [e]; exact hr _ (List.getElem_mem _)
theorem Ends.last {zs : List Int} {k : Nat} (h : Ends zs k) (hn : 16 ≤ zs.length) : zs.getD (zs.length - 1) 0 = (k : Int) := by
  obtain ⟨h1, h2, h3⟩ := h
  exact h3 _ (by omega) (by omega)

set_option maxHeartbeats 1600000 in
theorem unpad_yes (zs : List Int) (g n k : Nat) (w : World) (hn : zs.length = n) (h16 : 16 ≤ n) (hle : n ≤ 2097152)
    (hc : ∀ j, j < n → w.cell? ⟨g, j, none⟩ = some (.int .u8 (zs.getD j 0))) (hE : Ends zs k) :
    Calls Try.prog 14 #[.slice (some ⟨g, 0, none⟩) n n] w fun e w' =>
      e = .returned (.tuple #[.string (strOfNums (zs.take (n - k))), .bool true]) ∧ w = w' := by
  have hlast := hE.last (by omega)
  obtain ⟨hk1, hk2, hall⟩ := hE
  rw [hn] at hlast hall
  have hcl : w.cell? ⟨g, n - 1, none⟩ = some (.int .u8 (k : Int)) := by rw [hc (n - 1) (by omega), hlast]
  have hconv := run_convert_bytes_arg (P := Try.prog) w 23 5 Try.underlying23 Try.underlying5 g 0 (n - k) n (zs.take (n - k)) (by simp; omega) (fun i hi => by
    rw [Nat.zero_add, hc i (by omega)]; simp [hi]) 9 Try.underlying9
  have HC : Hid (∀ j, j < n → w.cell? ⟨g, j, none⟩ = some (.int .u8 (zs.getD j 0))) := hc
  have HA : Hid (∀ j, n - k ≤ j → j < n → zs.getD j 0 = (k : Int)) := hall
  clear hc hall hlast
  go_enter Try.func14, Try.ntmps14
  go_wp2
  go_loop [27] (fun i => ∃ m : Nat, m ≤ k ∧ i = .int .i64 m) (fun i => k - (intOf i).toNat)
  case atStart => exact ⟨0, Nat.zero_le _, rfl⟩
  case round =>
    obtain ⟨m, hm, rfl⟩ := hrel
    by_cases hlt : m < k
    · have hcm : w.cell? ⟨g, n - k + m, none⟩ = some (.int .u8 (k : Int)) := by rw [HC.out _ (by omega), HA.out _ (by omega) (by omega)]
      go_wp2
      go_round
      case rel => exact ⟨m + 1, by omega, by go_num⟩
      case measure => simp [intOf]; omega
    · go_wp2
      go_ret2
      exact ⟨rfl, rfl⟩

set_option maxHeartbeats 1600000 in
theorem unpad_no (zs : List Int) (g n : Nat) (w : World) (hn : zs.length = n) (h16 : 16 ≤ n) (hle : n ≤ 2097152)
    (hc : ∀ j, j < n → w.cell? ⟨g, j, none⟩ = some (.int .u8 (zs.getD j 0))) (hr : ∀ z ∈ zs, 0 ≤ z ∧ z ≤ 255) (hE : ∀ k, ¬ Ends zs k) :
    Calls Try.prog 14 #[.slice (some ⟨g, 0, none⟩) n n] w fun e w' =>
      e = .returned (.tuple #[.string ⟨#[]⟩, .bool false]) ∧ w = w' := by
  obtain ⟨z, hz⟩ : ∃ z, z = zs.getD (n - 1) 0 := ⟨_, rfl⟩
  have hcl : w.cell? ⟨g, n - 1, none⟩ = some (.int .u8 z) := by rw [hc (n - 1) (by omega), hz]
  have hzr : 0 ≤ z ∧ z ≤ 255 := by
    rw [hz]; exact getD_rng hr _ (by omega)
  obtain ⟨k, rfl⟩ : ∃ k : Nat, z = (k : Int) := ⟨z.toNat, by omega⟩
  have HC : Hid (∀ j, j < n → w.cell? ⟨g, j, none⟩ = some (.int .u8 (zs.getD j 0))) := hc
  clear hc hz
  by_cases hk1 : k < 1
  · go_enter Try.func14, Try.ntmps14
    go_wp2
    go_ret2
    exact ⟨rfl, rfl⟩
  by_cases hk2 : 16 < k
  · go_enter Try.func14, Try.ntmps14
    go_wp2
    go_ret2
    exact ⟨rfl, rfl⟩
  have HE : Hid (¬ ∀ j, n - k ≤ j → j < n → zs.getD j 0 = (k : Int)) := fun h => hE k ⟨by omega, by omega, by rw [hn]; exact h⟩
  clear hE
  go_enter Try.func14, Try.ntmps14
  go_wp2
  go_loop [27] (fun i => ∃ m : Nat, m ≤ k ∧ i = .int .i64 m ∧ ∀ j, n - k ≤ j → j < n - k + m → zs.getD j 0 = (k : Int)) (fun i => k - (intOf i).toNat)
  case atStart => exact ⟨0, Nat.zero_le _, rfl, fun j h1 h2 => by omega⟩
  case round =>
    obtain ⟨m, hm, rfl, hpre⟩ := hrel
    have HP : Hid (∀ j, n - k ≤ j → j < n - k + m → zs.getD j 0 = (k : Int)) := hpre
    clear hpre
    by_cases hlt : m < k
    · obtain ⟨y, hy⟩ : ∃ y, y = zs.getD (n - k + m) 0 := ⟨_, rfl⟩
      have hcm : w.cell? ⟨g, n - k + m, none⟩ = some (.int .u8 y) := by rw [HC.out _ (by omega), hy]
      have hyr : 0 ≤ y ∧ y ≤ 255 := by
        rw [hy]; exact getD_rng hr _ (by omega)
      have HY : Hid (y = zs.getD (n - k + m) 0) := hy
      clear hy
      by_cases hyk : y = (k : Int)
      · subst hyk
        go_wp2
        go_round
        case rel =>
          refine ⟨m + 1, by omega, by go_num, fun j h1 h2 => ?_⟩
          by_cases hj : j = n - k + m
          · subst hj; exact HY.out.symm
          · exact HP.out j h1 (by omega)
        case measure => simp [intOf]; omega
      · go_wp2
        go_ret2
        exact ⟨rfl, rfl⟩
    · exact absurd (fun j h1 h2 => HP.out j h1 (by omega)) HE.out

theorem zzunpad_yes (zs : List Int) (g n k : Nat) (w : World) (hn : zs.length = n) (h16 : 16 ≤ n) (hle : n ≤ 2097152)
    (hc : ∀ j, j < n → w.cell? ⟨g, j, none⟩ = some (.int .u8 (zs.getD j 0))) (hE : Ends zs k) :
    Calls Try.prog 10 #[.slice (some ⟨g, 0, none⟩) n n] w fun e w' =>
      e = .returned (.tuple #[.string (strOfNums (zs.take (n - k))), .bool true]) ∧ w = w' := by
  go_enter Try.func10, Try.ntmps10
  go_wp2_with (go_at_call 14; refine (unpad_yes zs g n k _ hn h16 hle hc hE).mono ?_; rintro e w1 ⟨rfl, rfl⟩)
  go_ret2
  exact ⟨rfl, rfl⟩
theorem zzunpad_no (zs : List Int) (g n : Nat) (w : World) (hn : zs.length = n) (h16 : 16 ≤ n) (hle : n ≤ 2097152)
    (hc : ∀ j, j < n → w.cell? ⟨g, j, none⟩ = some (.int .u8 (zs.getD j 0))) (hr : ∀ z ∈ zs, 0 ≤ z ∧ z ≤ 255) (hE : ∀ k, ¬ Ends zs k) :
    Calls Try.prog 10 #[.slice (some ⟨g, 0, none⟩) n n] w fun e w' =>
      e = .returned (.tuple #[.string ⟨#[]⟩, .bool false]) ∧ w = w' := by
  go_enter Try.func10, Try.ntmps10
  go_wp2_with (go_at_call 14; refine (unpad_no zs g n _ hn h16 hle hc hr hE).mono ?_; rintro e w1 ⟨rfl, rfl⟩)
  go_ret2
  exact ⟨rfl, rfl⟩
end Go.Proofs.Qxb6601962a
