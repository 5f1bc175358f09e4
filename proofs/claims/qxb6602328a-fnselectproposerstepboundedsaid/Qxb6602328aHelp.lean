/-
  The law's helpers: zzBytes_, zzPowersTotal, zzWithin, zzClone: contracts.
-/
import Derived.Test.Qxb6602328aBound
import Derived.Lib.BufferMore
namespace Go.Proofs.Qxb6602328a
open Go.RowKit

theorem zzb_yes (a0 a1 : Option Addr) (n c m d : Nat) (w : World) (h1 : n ≤ 65536) (h2 : m ≤ 65536) :
    Calls Try.prog 5 #[.slice a0 n c, .slice a1 m d] w fun e w' => e = .returned (.bool true) ∧ w = w' := by
  go_enter Try.func5, Try.ntmps5
  go_wp2
  go_ret
  exact ⟨rfl, rfl⟩
theorem zzb_any (a0 a1 : Option Addr) (n c m d : Nat) (w : World) (h1 : n ≤ 9223372036854775807) (h2 : m ≤ 9223372036854775807) :
    Calls Try.prog 5 #[.slice a0 n c, .slice a1 m d] w fun e w' => (∃ b, e = .returned (.bool b)) ∧ w = w' := by
  by_cases g1 : n ≤ 1048576
  · by_cases g2 : m ≤ 1048576
    · by_cases g3 : n + m ≤ 1048576
      · go_enter Try.func5, Try.ntmps5
        go_wp2
        go_ret
        exact ⟨⟨_, rfl⟩, rfl⟩
      · go_enter Try.func5, Try.ntmps5
        go_wp2
        go_ret
        exact ⟨⟨_, rfl⟩, rfl⟩
    · go_enter Try.func5, Try.ntmps5
      go_wp2
      go_ret
      exact ⟨⟨_, rfl⟩, rfl⟩
  · go_enter Try.func5, Try.ntmps5
    go_wp2
    go_ret
    exact ⟨⟨_, rfl⟩, rfl⟩

theorem pt_empty (a : Option Addr) (c : Nat) (w : World) :
    Calls Try.prog 6 #[.slice a 0 c] w fun e w' => e = .returned (.tuple #[.int .i64 0, .bool false]) ∧ w = w' := by
  go_enter Try.func6, Try.ntmps6
  go_wp2
  go_ret2
  exact ⟨rfl, rfl⟩

theorem pt_yes (b off n c : Nat) (ps : List Int) (T : Int) (w : World) (h1 : 1 ≤ n) (hn : n ≤ 65536) (hl : ps.length = n)
    (hc : ∀ j, j < n → w.cell? ⟨b, off + j, none⟩ = some (.int .i64 (ps.getD j 0))) (hps : ∀ p ∈ ps, 1 ≤ p) (hT : T = tot ps) (hT2 : T ≤ 1152921504606846976) :
    Calls Try.prog 6 #[.slice (some ⟨b, off, none⟩) n c] w fun e w' => e = .returned (.tuple #[.int .i64 T, .bool true]) ∧ w = w' := by
  have HC := hide hc
  have HPS := hide hps
  have HT := hide hT
  clear hc hps hT
  go_enter Try.func6, Try.ntmps6
  go_wp2
  go_loop [4, 5] (fun t i => ∃ (k : Nat) (z : Int), k ≤ n ∧ i = .int .i64 k ∧ t = .int .i64 z ∧ 0 ≤ z ∧ z ≤ T ∧ z = tot (ps.take k) ∧ ∀ p ∈ ps.take k, 1 ≤ p) (fun _ i => n - (intOf i).toNat)
  case atStart => exact ⟨0, 0, Nat.zero_le _, rfl, rfl, by omega, by have := tot_take_le ps 0 (fun p hp => by have := HPS.out p hp; omega); rw [← HT.out] at this; omega, by simp [tot], by simp⟩
  case round =>
    obtain ⟨k, z, hk, rfl, rfl, hz0, hz1, hz, _⟩ := hrel
    have HZ := hide hz
    clear hz
    by_cases hlt : k < n
    · obtain ⟨y, hy⟩ : ∃ y, y = ps.getD k 0 := ⟨_, rfl⟩
      have hck : w.cell? ⟨b, off + k, none⟩ = some (.int .i64 y) := by rw [HC.out k hlt, hy]
      have hs := tot_take_succ ps k (by omega)
      have hb2 : 0 ≤ tot (ps.take (k + 1)) ∧ tot (ps.take (k + 1)) ≤ T := by rw [HT.out]; exact tot_take_le ps (k + 1) (fun p hp => by have := HPS.out p hp; omega)
      have hzy : 0 ≤ z + y ∧ z + y ≤ T := by rw [HZ.out, hy, ← hs]; exact hb2
      have hy1 : 1 ≤ y := by rw [hy]; exact HPS.out _ (getD_mem (by omega))
      have hy2 : ¬ 1152921504606846976 < y := by omega
      have g1 : ¬ y < 1 := by omega
      have g3 : ¬ 1152921504606846976 < z + y := by omega
      have HZY := hide hzy
      clear hy1 hzy
      have HY := hide hy
      have HS := hide hs
      clear hy hs hb2
      go_wp2
      go_round
      case rel => exact ⟨k + 1, z + y, by omega, by go_num, rfl, by omega, HZY.out.2, by rw [HS.out, HZ.out, HY.out], fun p hp => HPS.out p (List.mem_of_mem_take hp)⟩
      case measure => simp [intOf]; omega
    · obtain rfl : T = z := by rw [HZ.out, HT.out, tot_take_all ps k (by omega)]
      clear HZ
      go_wp2
      go_ret2
      exact ⟨rfl, rfl⟩

theorem pt_no (b off n c : Nat) (ps : List Int) (w : World) (h1 : 1 ≤ n) (hn : n ≤ 65536) (hl : ps.length = n)
    (hc : ∀ j, j < n → w.cell? ⟨b, off + j, none⟩ = some (.int .i64 (ps.getD j 0))) (hno : ¬ ((∀ p ∈ ps, 1 ≤ p) ∧ tot ps ≤ 1152921504606846976)) :
    Calls Try.prog 6 #[.slice (some ⟨b, off, none⟩) n c] w fun e w' => e = .returned (.tuple #[.int .i64 0, .bool false]) ∧ w = w' := by
  have HC := hide hc
  have HN := hide hno
  clear hc hno
  go_enter Try.func6, Try.ntmps6
  go_wp2
  go_loop [4, 5] (fun t i => ∃ (k : Nat) (z : Int), k ≤ n ∧ i = .int .i64 k ∧ t = .int .i64 z ∧ 0 ≤ z ∧ z ≤ 1152921504606846976 ∧ z = tot (ps.take k) ∧ ∀ p ∈ ps.take k, 1 ≤ p) (fun _ i => n - (intOf i).toNat)
  case atStart => exact ⟨0, 0, Nat.zero_le _, rfl, rfl, by omega, by omega, by simp [tot], by simp⟩
  case round =>
    obtain ⟨k, z, hk, rfl, rfl, hz0, hz1, hz, hpos⟩ := hrel
    have HZ := hide hz
    have HP := hide hpos
    clear hz hpos
    by_cases hlt : k < n
    · obtain ⟨y, hy⟩ : ∃ y, y = ps.getD k 0 := ⟨_, rfl⟩
      have hck : w.cell? ⟨b, off + k, none⟩ = some (.int .i64 y) := by rw [HC.out k hlt, hy]
      have HY := hide hy
      clear hy
      by_cases g1 : y < 1
      · go_wp2
        go_ret2
        exact ⟨rfl, rfl⟩
      by_cases g2 : 1152921504606846976 < y
      · go_wp2
        go_ret2
        exact ⟨rfl, rfl⟩
      by_cases g3 : 1152921504606846976 < z + y
      · go_wp2
        go_ret2
        exact ⟨rfl, rfl⟩
      go_wp2
      go_round
      case rel =>
        refine ⟨k + 1, z + y, by omega, by go_num, rfl, by omega, by omega, by rw [tot_take_succ ps k (by omega), HZ.out, HY.out], ?_⟩
        rw [take_snoc ps k (by omega)]
        intro p hp
        rcases List.mem_append.1 hp with h | h
        · exact HP.out p h
        · simp at h; have := HY.out; simp at this; omega
      case measure => simp [intOf]; omega
    · refine absurd ?_ HN.out
      have h1 := HZ.out
      have h2 := HP.out
      rw [List.take_of_length_le (by omega)] at h1 h2
      exact ⟨h2, by omega⟩

theorem within_yes (b off n c : Nat) (qs : List Int) (lo hi : Int) (w : World) (hn : n ≤ 65536) (hl : qs.length = n)
    (hc : ∀ j, j < n → w.cell? ⟨b, off + j, none⟩ = some (.int .i64 (qs.getD j 0))) (hqs : ∀ q ∈ qs, lo ≤ q ∧ q ≤ hi) :
    Calls Try.prog 7 #[.slice (some ⟨b, off, none⟩) n c, .int .i64 lo, .int .i64 hi] w fun e w' => e = .returned (.bool true) ∧ w = w' := by
  have HC := hide hc
  have HQ := hide hqs
  clear hc hqs
  go_enter Try.func7, Try.ntmps7
  go_wp2
  go_loop [7] (fun i => ∃ (k : Nat), k ≤ n ∧ i = .int .i64 k) (fun i => n - (intOf i).toNat)
  case atStart => exact ⟨0, Nat.zero_le _, rfl⟩
  case round =>
    obtain ⟨k, hk, rfl⟩ := hrel
    by_cases hlt : k < n
    · obtain ⟨y, hy⟩ : ∃ y, y = qs.getD k 0 := ⟨_, rfl⟩
      have hck : w.cell? ⟨b, off + k, none⟩ = some (.int .i64 y) := by rw [HC.out k hlt, hy]
      have hyb : lo ≤ y ∧ y ≤ hi := by rw [hy]; exact HQ.out _ (getD_mem (by omega))
      clear hy
      go_wp2
      go_round
      case rel => exact ⟨k + 1, by omega, by go_num⟩
      case measure => simp [intOf]; omega
    · go_wp2
      go_ret
      exact ⟨rfl, rfl⟩

theorem within_no (b off n c : Nat) (qs : List Int) (lo hi : Int) (w : World) (hn : n ≤ 65536) (hl : qs.length = n)
    (hc : ∀ j, j < n → w.cell? ⟨b, off + j, none⟩ = some (.int .i64 (qs.getD j 0))) (hno : ¬ ∀ q ∈ qs, lo ≤ q ∧ q ≤ hi) :
    Calls Try.prog 7 #[.slice (some ⟨b, off, none⟩) n c, .int .i64 lo, .int .i64 hi] w fun e w' => e = .returned (.bool false) ∧ w = w' := by
  have HC := hide hc
  have HN := hide hno
  clear hc hno
  go_enter Try.func7, Try.ntmps7
  go_wp2
  go_loop [7] (fun i => ∃ (k : Nat), k ≤ n ∧ i = .int .i64 k ∧ ∀ q ∈ qs.take k, lo ≤ q ∧ q ≤ hi) (fun i => n - (intOf i).toNat)
  case atStart => exact ⟨0, Nat.zero_le _, rfl, by simp⟩
  case round =>
    obtain ⟨k, hk, rfl, hpre⟩ := hrel
    have HP := hide hpre
    clear hpre
    by_cases hlt : k < n
    · obtain ⟨y, hy⟩ : ∃ y, y = qs.getD k 0 := ⟨_, rfl⟩
      have hck : w.cell? ⟨b, off + k, none⟩ = some (.int .i64 y) := by rw [HC.out k hlt, hy]
      have HY := hide hy
      clear hy
      by_cases g1 : y < lo
      · go_wp2
        go_ret
        exact ⟨rfl, rfl⟩
      by_cases g2 : hi < y
      · go_wp2
        go_ret
        exact ⟨rfl, rfl⟩
      go_wp2
      go_round
      case rel =>
        refine ⟨k + 1, by omega, by go_num, ?_⟩
        rw [take_snoc qs k (by omega)]
        intro p hp
        rcases List.mem_append.1 hp with h | h
        · exact HP.out p h
        · simp at h; have := HY.out; simp at this; omega
      case measure => simp [intOf]; omega
    · refine absurd ?_ HN.out
      have h2 := HP.out
      rwa [List.take_of_length_le (by omega)] at h2

set_option maxHeartbeats 800000 in
theorem clone_any (base b off n c : Nat) (qs : List Int) (w : World) (hn : n ≤ 65536) (hl : qs.length = n) (hb : b < w.heap.size) (hbase : base ≤ w.heap.size)
    (hc : ∀ j, j < n → w.cell? ⟨b, off + j, none⟩ = some (.int .i64 (qs.getD j 0))) :
    Calls Try.prog 8 #[.slice (some ⟨b, off, none⟩) n c] w fun e w' => e = .returned (.slice (some ⟨w.heap.size, 0, none⟩) n n) ∧ Row w' base w.heap.size n qs ∧ Below w.heap.size w w' := by
  obtain ⟨i0, hi, hz0, hz1, hz2⟩ := info_parts Try.info2
  have HC := hide hc
  clear hc
  have hnil : ∀ w : World, (binOp .eql 22 (.slice (some ⟨b, off, none⟩) n c) (.slice none 0 0)).run Try.prog w = .ok (.bool false) w := fun w => Lib.run_eql_slice_some_nil w _ n c Try.underlying22
  go_enter Try.func8, Try.ntmps8
  go_wp2_with (at_make; refine wpList_make_full _ rfl _ _ 22 rfl base 2 i0 (.int .i64 0) 1 Try.underlying22 hi hz0 hz1 _ _ _ _ n rfl rfl rfl rfl (by rw [hz2]; omega) (by unfold maxLen; omega) hbase ?_; intro w0 hown0 hgrow0)
  have hb0 : Below w.heap.size w w0 := (Below.refl _ _).grown hgrow0 (Nat.le_refl _) (fun k h => by cases h)
  have hr0 := made_row hown0
  clear hown0 hgrow0
  go_loopw [4] (fun i wr => ∃ (m : Nat) (xs : List Int), m ≤ n ∧ i = .int .i64 m ∧ (∀ j, j < m → xs.getD j 0 = qs.getD j 0) ∧ Row wr base w.heap.size n xs ∧ Below w.heap.size w wr)
    (fun i _ => n - (intOf i).toNat)
  case atStart => exact ⟨0, _, Nat.zero_le _, rfl, fun j h => by omega, hr0, hb0⟩
  case round =>
    obtain ⟨m, xs, hm, rfl, hxs, hrow, hbel⟩ := hrel
    have HX := hide hxs
    have HR := hide hrow
    have hxl := hrow.len
    clear hxs hrow
    by_cases hlt : m < n
    · obtain ⟨y, hy⟩ : ∃ y, y = qs.getD m 0 := ⟨_, rfl⟩
      have hcm : wr.cell? ⟨b, off + m, none⟩ = some (.int .i64 y) := by rw [hbel.cell (by exact hb), HC.out m hlt, hy]
      have hfr := HR.out.frozen m
      have hce := HR.out.cell m hlt
      have HY := hide hy
      clear hy
      go_wp2
      go_roundw
      case rel =>
        refine ⟨m + 1, xs.set m y, by omega, by go_num, fun j hj => ?_, HR.out.store m y, hbel.setCell (Nat.le_refl _) _⟩
        rw [getD_set (by omega)]
        by_cases e : j = m
        · rw [if_pos e, e, HY.out]
        · rw [if_neg e]; exact HX.out j (by omega)
      case measure => simp [intOf]; omega
    · obtain rfl : xs = qs := ext_getD hxl hl (fun j hj => HX.out j (by omega))
      go_wp2
      go_ret
      exact ⟨rfl, HR.out, hbel⟩
end Go.Proofs.Qxb6602328a
