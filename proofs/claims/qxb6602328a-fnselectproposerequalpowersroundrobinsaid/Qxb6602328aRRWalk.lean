/-
  FnSelectProposerEqualPowersRoundRobin: the walk.
-/
import Derived.Test.Qxb6602328aRRMath
import Derived.Deep.RegionWith
namespace Go.Proofs.Qxb6602328a.fnSelectProposerEqualPowersRoundRobin
open Go.RowKit

theorem Row.drew {w : World} {base g n : Nat} {zs : List Int} (h : Row w base g n zs) : Row w.drew base g n zs := h

theorem fill_step {xs : List Int} {n k : Nat} {x : Int} (hl : xs.length = n) (hk : k < n) (h : ∀ j, j < k → xs.getD j 0 = x) : ∀ j, j < k + 1 → (xs.set k x).getD j 0 = x := by
  intro j hj
  rw [getD_set (by omega)]
  split
  · rfl
  · exact h j (by omega)

set_option maxHeartbeats 3200000 in
theorem walk_main (n k : Nat) (x : Int) (w : World) (h1 : 1 ≤ n) (hn : n ≤ 65536) (hk : k ≤ 65536) (hx : 1 ≤ x) (hx2 : x ≤ 1152921504606846976 / (n : Int)) (hnk : (n : Int) * (k : Int) ≤ 67108864) :
    Calls Try.prog 4 #[.int .i64 n, .int .i64 x, .int .i64 k] w fun e w' => e = .returned (.bool true) ∧ Below w.heap.size w w' := by
  obtain ⟨i0, hi, hz0, hz1, hz2⟩ := info_parts Try.info2
  have hxn : (n : Int) * x ≤ 1152921504606846976 := by
    rw [Int.le_ediv_iff_mul_le (by omega)] at hx2
    rw [Int.mul_comm]; exact hx2
  have hnk0 : 0 ≤ (n : Int) * (k : Int) := Int.mul_nonneg (by omega) (by omega)
  have hx3 : x ≤ 1152921504606846976 := by have := mul_lt_nat (show 0 < n by omega) hx; omega
  have hdv : 1 ≤ 1152921504606846976 / (n : Int) := by omega
  have hdv2 : 1152921504606846976 / (n : Int) ≤ 1152921504606846976 := Int.ediv_le_self _ (by omega)
  obtain ⟨m, hm⟩ : ∃ m, m = k % n := ⟨_, rfl⟩
  have hmn : m < n := by rw [hm]; exact Nat.mod_lt _ (by omega)
  have hkm : (k : Int) % (n : Int) = (m : Int) := by rw [hm]; simp
  have HM := hide hm
  clear hm
  go_enter Try.func4, Try.ntmps4
  go_wp2_with (first | (at_make; refine wpList_make_full _ rfl (.tmp 38) (.tmp 38) 22 rfl w.heap.size 2 i0 (.int .i64 0) 1 Try.underlying22 hi hz0 hz1 _ _ _ _ n rfl rfl rfl rfl (by rw [hz2]; omega) (by unfold maxLen; omega) (Nat.le_refl _) ?_; intro w0 hown0 hgrow0) | (at_make; refine wpList_make_full _ rfl (.tmp 40) (.tmp 40) 22 rfl w.heap.size 2 i0 (.int .i64 0) 1 Try.underlying22 hi hz0 hz1 _ _ _ _ n rfl rfl rfl rfl (by rw [hz2]; omega) (by unfold maxLen; omega) hgrow0.size ?_; intro w1 hown1 hgrow1))
  have hr0 := made_row hown0
  have hr1 := made_row hown1
  have hlt0 : w.heap.size < w0.heap.size := (hown0.lt _ rfl).2
  have hne : w.heap.size ≠ w0.heap.size := by omega
  have hb1 : Below w.heap.size w w1 := ((Below.refl _ _).grown hgrow0 (Nat.le_refl _) (fun k h => by cases h)).grown hgrow1 hgrow0.size (fun k h => by cases h)
  have hr0' : Row w1 w.heap.size w.heap.size n (List.replicate n 0) := World.ownsRow.kept hr0 hgrow1 (.inr (by simp [Value.ownBlock]))
  obtain ⟨g2, hg2⟩ : ∃ g2, g2 = w0.heap.size := ⟨_, rfl⟩
  rw [← hg2] at hne hlt0 hr1 ⊢
  clear hown0 hown1 hgrow0 hgrow1 hr0 hg2
  go_loopw [9] (fun i wr => ∃ (j : Nat) (xs : List Int), j ≤ n ∧ i = .int .i64 j ∧ (∀ t, t < j → xs.getD t 0 = x) ∧ Row wr w.heap.size w.heap.size n xs ∧ Row wr w.heap.size g2 n (state n x 0) ∧ Below w.heap.size w wr) (fun i _ => n - (intOf i).toNat)
  case atStart => exact ⟨0, _, Nat.zero_le _, rfl, fun t h => by omega, hr0', by rw [state_zero]; exact hr1, hb1⟩
  case round =>
    obtain ⟨j, xs, hj, rfl, hxs, hra, hrb, hbel⟩ := hrel
    have HX := hide hxs
    have hxl := hra.len
    clear hxs
    by_cases hlt : j < n
    · have hce := hra.cell j hlt
      have hfr := hra.frozen j
      have HRA := hide hra
      have HRB := hide hrb
      clear hra hrb
      go_wp2
      go_roundw
      case rel => exact ⟨j + 1, xs.set j x, by omega, by go_num, fill_step hxl hlt HX.out, HRA.out.store j x, HRB.out.kept (grown_set (grown_refl wr w.heap.size) j _) (fun e => hne e.symm), hbel.setCell (Nat.le_refl _) _⟩
      case measure => simp [intOf]; omega
    · obtain rfl : xs = List.replicate n x := ext_getD hxl (by simp) (fun t ht => by rw [HX.out t (by omega), rep_at n x t ht])
      clear hxl HX
      have HRA := hide hra
      have HRB := hide hrb
      have HBL := hide hbel
      clear hra hrb hbel
      go_wp2
      go_loopw [10] (fun i wq => ∃ s : Nat, s ≤ k ∧ i = .int .i64 s ∧ Row wq w.heap.size w.heap.size n (List.replicate n x) ∧ Row wq w.heap.size g2 n (state n x (s % n)) ∧ Below w.heap.size w wq) (fun i _ => k - (intOf i).toNat)
      case atStart => exact ⟨0, Nat.zero_le _, rfl, HRA.out, by rw [Nat.zero_mod]; exact HRB.out, HBL.out⟩
      case round =>
        obtain ⟨s, hs, rfl, hra, hrb, hbel⟩ := hrel
        have HRA := hide hra
        have HRB := hide hrb
        have HBL := hide hbel
        clear hra hrb hbel
        by_cases hlt2 : s < k
        · obtain ⟨r, hr⟩ : ∃ r : Int, r = ((s % n : Nat) : Int) := ⟨_, rfl⟩
          have hsr : (s : Int).tmod (n : Int) = r := by rw [Int.tmod_eq_emod_of_nonneg (by omega), hr]; simp
          have HRR := hide hr
          clear hr
          go_wp2
          go_region_with (go_at_call 9; refine (rr_call w.heap.size w.heap.size g2 n (s % n) x r wr.drew hne (Nat.mod_lt _ (by omega)) hn hx hxn HRR.out (Row.drew HRA.out) (Row.drew HRB.out)).mono ?_; rintro e w2 ⟨rfl, hrow2, hgr2⟩)
          go_wp2
          have hrow3 : Row w2 w.heap.size g2 n (state n x ((s + 1) % n)) := by rw [← Nat.mod_add_mod]; exact hrow2
          have hgr3 : wr.grownBy w2 (some g2) := grown_trans (grown_drew (grown_refl wr g2)) hgr2
          go_roundw
          case rel => exact ⟨s + 1, by omega, by go_num, HRA.out.kept hgr3 hne, hrow3, HBL.out.grown hgr3 HBL.out.size (fun k hk => by cases hk; omega)⟩
          case measure => simp [intOf]; omega
        · have hsk : s = k := by omega
          subst hsk
          have hmb := mul_lt_nat hmn hx
          have HRC : Hid (∀ i, i < n → wr.cell? ⟨g2, i, none⟩ = some (.int .i64 (rrAt n x m i))) := by
            show ∀ i, i < n → _
            intro i hi
            rw [HRB.out.cell i hi, ← HM.out, state_at n x m i hi]
          go_wp2
          rw [hkm]
          go_loop [12] (fun i => ∃ t : Nat, t ≤ n ∧ i = .int .i64 t) (fun i => n - (intOf i).toNat)
          case atStart => exact ⟨0, Nat.zero_le _, rfl⟩
          case round =>
            obtain ⟨t, ht, rfl⟩ := hrel
            by_cases hlt3 : t < n
            · by_cases htm : t < m
              · have hc : wr.cell? ⟨g2, t, none⟩ = some (.int .i64 ((m : Int) * x - (n : Int) * x)) := by rw [HRC.out t hlt3, rrAt, if_pos htm]
                go_wp2
                go_round
                case rel => exact ⟨t + 1, by omega, by go_num⟩
                case measure => simp [intOf]; omega
              · have hc : wr.cell? ⟨g2, t, none⟩ = some (.int .i64 ((m : Int) * x)) := by rw [HRC.out t hlt3, rrAt, if_neg htm, Int.sub_zero]
                go_wp2
                go_round
                case rel => exact ⟨t + 1, by omega, by go_num⟩
                case measure => simp [intOf]; omega
            · go_wp2
              go_ret
              exact ⟨rfl, HBL.out⟩

set_option maxHeartbeats 1600000 in
theorem walk (a0 : Int) (a1 : Int) (a2 : Int) (w0 : (Lit.int .i64 a0).wf = true) (w1 : (Lit.int .i64 a1).wf = true) (w2 : (Lit.int .i64 a2).wf = true) (w : World) :
    Calls Try.prog 4 #[.int .i64 a0, .int .i64 a1, .int .i64 a2] w fun e w' => e = .returned (.bool true) ∧ Below w.heap.size w w' := by
  have b0 := bounds_i64 w0
  have b1 := bounds_i64 w1
  have b2 := bounds_i64 w2
  clear w0 w1 w2
  by_cases h1 : a0 < 1
  · go_enter Try.func4, Try.ntmps4
    go_wp2
    go_ret
    exact ⟨rfl, Below.refl _ _⟩
  by_cases h2 : 65536 < a0
  · go_enter Try.func4, Try.ntmps4
    go_wp2
    go_ret
    exact ⟨rfl, Below.refl _ _⟩
  by_cases h3 : a2 < 0
  · go_enter Try.func4, Try.ntmps4
    go_wp2
    go_ret
    exact ⟨rfl, Below.refl _ _⟩
  by_cases h4 : 65536 < a2
  · go_enter Try.func4, Try.ntmps4
    go_wp2
    go_ret
    exact ⟨rfl, Below.refl _ _⟩
  obtain ⟨n, rfl⟩ : ∃ n : Nat, a0 = n := ⟨a0.toNat, by omega⟩
  obtain ⟨k, rfl⟩ : ∃ k : Nat, a2 = k := ⟨a2.toNat, by omega⟩
  by_cases h5 : a1 < 1
  · go_enter Try.func4, Try.ntmps4
    go_wp2
    go_ret
    exact ⟨rfl, Below.refl _ _⟩
  have hd1 : 0 ≤ 1152921504606846976 / (n : Int) := Int.ediv_nonneg (by omega) (by omega)
  have hd2 : 1152921504606846976 / (n : Int) ≤ 1152921504606846976 := Int.ediv_le_self _ (by omega)
  by_cases h6 : 1152921504606846976 / (n : Int) < a1
  · go_enter Try.func4, Try.ntmps4
    go_wp2
    go_ret
    exact ⟨rfl, Below.refl _ _⟩
  have hm1 : 0 ≤ (n : Int) * (k : Int) := Int.mul_nonneg (by omega) (by omega)
  have hm2 : (n : Int) * (k : Int) ≤ 65536 * 65536 := Int.mul_le_mul (by omega) (by omega) (by omega) (by omega)
  by_cases h7 : 67108864 < (n : Int) * (k : Int)
  · go_enter Try.func4, Try.ntmps4
    go_wp2
    go_ret
    exact ⟨rfl, Below.refl _ _⟩
  exact walk_main n k a1 w (by omega) (by omega) (by omega) (by omega) (by omega) (by omega)
end Go.Proofs.Qxb6602328a.fnSelectProposerEqualPowersRoundRobin
