/-
  FnPadInvertsUnpad: the walk.
-/
import Derived.Test.Qxb6601962aCopy
import Derived.BigQuiet
import Derived.WalkSmall
import Derived.Deep.QuietTactic
namespace Go.Proofs.Qxb6601962a.fnPadInvertsUnpad
open Go.RowKit

theorem zzb_yes (a : Option Addr) (n c : Nat) (w : World) (hs : n ≤ 1048576) :
    Calls Try.prog 12 #[.slice a n c] w fun e w' => e = .returned (.bool true) ∧ w = w' := by
  go_enter Try.func12, Try.ntmps12
  go_wp2
  go_ret
  exact ⟨rfl, rfl⟩
theorem zzb_no (a : Option Addr) (n c : Nat) (w : World) (hs : ¬ n ≤ 1048576) (hm : n ≤ 9223372036854775807) :
    Calls Try.prog 12 #[.slice a n c] w fun e w' => e = .returned (.bool false) ∧ w = w' := by
  go_enter Try.func12, Try.ntmps12
  go_wp2
  go_ret
  exact ⟨rfl, rfl⟩


set_option maxHeartbeats 1600000 in
theorem walk_main (b off n c : Nat) (ys : List Int) (w : World) (hy : ys.length = n) (h16 : 16 ≤ n) (hs : n ≤ 1048576) (hb : b < w.heap.size)
    (hc : ∀ j, j < n → w.cell? ⟨b, off + j, none⟩ = some (.int .u8 (ys.getD j 0))) (hr : ∀ z ∈ ys, 0 ≤ z ∧ z ≤ 255) :
    Calls Try.prog 6 #[.slice (some ⟨b, off, none⟩) n c] w fun e w' => e = .returned (.bool true) ∧ Below w.heap.size w w' := by
  obtain ⟨i0, hi, hz0, hz1, hz2⟩ := info_parts Try.info5
  have HC := hide hc
  clear hc
  go_enter Try.func6, Try.ntmps6
  go_wp2_with (first | (go_at_call 12; refine (zzb_yes _ _ _ _ hs).mono ?_; rintro e w1 ⟨rfl, rfl⟩) | (at_make; refine wpList_make_full _ rfl _ _ 23 rfl w.heap.size 5 i0 (.int .u8 0) 1 Try.underlying23 hi hz0 hz1 _ _ _ _ n rfl rfl rfl rfl (by rw [hz2]; omega) (by unfold maxLen; omega) (Nat.le_refl _) ?_; intro w0 hown0 hgrow0))
  have hb0 : Below w.heap.size w w0 := (Below.refl _ _).grown hgrow0 (Nat.le_refl _) (fun k h => by cases h)
  go_loopw [4] (fun i wr => ∃ (m : Nat) (xs : List Value), m ≤ n ∧ i = .int .i64 m ∧ xs.length = n ∧ (∀ j, j < m → xs[j]? = some (.int .u8 (ys.getD j 0))) ∧ wr.ownsRow w.heap.size 5 1 (.slice (some ⟨w.heap.size, 0, none⟩) n n) n xs ∧ Below w.heap.size w wr)
    (fun i _ => n - (intOf i).toNat)
  case atStart => exact ⟨0, _, Nat.zero_le _, rfl, made_length, fun j h => by omega, hown0, hb0⟩
  case round =>
    obtain ⟨m, xs, hm, rfl, hxl, hxs, hown, hbel⟩ := hrel
    have HX := hide hxs
    clear hxs
    by_cases hlt : m < n
    · obtain ⟨y, hy'⟩ : ∃ y, y = ys.getD m 0 := ⟨_, rfl⟩
      have hcm : wr.cell? ⟨b, off + m, none⟩ = some (.int .u8 y) := by rw [hbel.cell (by exact hb), HC.out m hlt, hy']
      have hfr := hown.frozenAt m
      have hce : wr.cell? ⟨w.heap.size, m, none⟩ = some xs[m] := by rw [hown.cellAt m (by omega)]; simp
      have HY := hide hy'
      clear hy'
      go_wp2
      go_roundw
      case rel =>
        have st := hown.stored m (.int .u8 y)
        refine ⟨m + 1, xs.set m (.int .u8 y), by omega, by go_num, by simp [hxl], ?_, st.1, hbel.setCell (Nat.le_refl _) _⟩
        have := HY.out; subst this
        exact copy_step hxl hlt HX.out
      case measure => simp [intOf]; omega
    · obtain rfl : xs = ys.map (Value.int .u8) := copy_done hxl hy (fun j hj => HX.out j (by omega))
      clear HX HC hxl
      have HO := hide (own_cell hown)
      by_cases hE : ∃ k, Ends ys k
      · obtain ⟨k, hE⟩ := hE
        have hk1 := hE.1
        have hk2 := hE.2.1
        obtain ⟨S, hS⟩ : ∃ S, S = strOfNums (ys.take (n - k)) := ⟨_, rfl⟩
        obtain ⟨hSn, hSj⟩ := S_facts hS hy hr
        have hS1 : (S.size : Int) ≤ (n : Int) - (k : Int) := by omega
        have hS2 : (n : Int) - (k : Int) ≤ (S.size : Int) := by omega
        have hS3 : S.size ≤ 1048576 := by omega
        have HSj := hide hSj
        have HSn := hide hSn
        have HS := hide hS
        have HE := hide hE
        have hlt0 : w.heap.size < wr.heap.size := (hown.lt _ rfl).2
        clear hSj hSn hS hE
        go_wp2_with (go_at_call 10; refine (zzunpad_S S ys _ n k _ HS.out hy h16 (by omega) HO.out HE.out).mono ?_; rintro e w2 ⟨rfl, rfl⟩)
        go_loopw [7] (fun i wq => ∃ m : Nat, m ≤ S.size ∧ i = .int .i64 m ∧ ∃ q, wq = wr.drewN q) (fun i _ => S.size - (intOf i).toNat)
        case atStart => exact ⟨0, Nat.zero_le _, rfl, 0, rfl⟩
        case round =>
          obtain ⟨m, hm', rfl, q, rfl⟩ := hrel
          by_cases hlt3 : m < S.size
          · have hcm : wr.cell? ⟨w.heap.size, m, none⟩ = some (.int .u8 ((S[m]'hlt3).toNat : Int)) := by rw [HO.out m (by omega), HSj.out m hlt3]
            go_wp2
            go_quiet (fail)
            go_wp2
            go_roundw
            case rel => exact ⟨m + 1, by omega, by go_num, _, rfl⟩
            case measure => simp [intOf]; omega
          · by_cases hmod : n % 16 = 0
            · have hpk : padK S.size = k := by rw [HSn.out]; unfold padK; omega
              go_wp2_with (go_at_call 8; refine (zzpad_any _ _ hS3).mono ?_; rintro e w2 ⟨rfl, hown2, hb2⟩)
              have HP : Hid (∀ j, j < n → w2.cell? ⟨wr.heap.size, j, none⟩ = some (.int .u8 (ys.getD j 0))) := by
                show ∀ j, j < n → _
                intro j hj
                have hj2 : j < S.size + padK S.size := by omega
                have h := own_cell hown2 j hj2
                rw [show (wr.drewN q).heap.size = wr.heap.size from rfl] at h
                rw [h]
                by_cases hjs : j < S.size
                · rw [padL_low S j hjs, HSj.out j hjs]
                · rw [padL_high S j (by omega) hj2, hpk, HE.out.2.2 j (by omega) (by omega)]
              have HB : Hid (∀ j, j < n → w2.cell? ⟨w.heap.size, j, none⟩ = some (.int .u8 (ys.getD j 0))) := by
                show ∀ j, j < n → _
                intro j hj
                rw [hb2.cell (p := ⟨w.heap.size, j, none⟩) hlt0]
                exact HO.out j hj
              have hbel2 : Below w.heap.size w w2 := (below_drewN hbel q).trans (hb2.mono (Nat.le_of_lt hlt0))
              clear hown2 hb2
              go_loopw [9] (fun i wq => ∃ m : Nat, m ≤ n ∧ i = .int .i64 m ∧ ∃ q, wq = w2.drewN q) (fun i _ => n - (intOf i).toNat)
              case atStart => exact ⟨0, Nat.zero_le _, rfl, 0, rfl⟩
              case round =>
                obtain ⟨t, ht', rfl, q', rfl⟩ := hrel
                by_cases hlt4 : t < n
                · obtain ⟨y, hyy⟩ : ∃ y, y = ys.getD t 0 := ⟨_, rfl⟩
                  have hc1 : w2.cell? ⟨wr.heap.size, t, none⟩ = some (.int .u8 y) := by rw [HP.out t hlt4, hyy]
                  have hc2 : w2.cell? ⟨w.heap.size, t, none⟩ = some (.int .u8 y) := by rw [HB.out t hlt4, hyy]
                  have hlt5 : t < S.size + k := by omega
                  clear hyy
                  go_wp2
                  go_quiet (fail)
                  go_wp2
                  go_roundw
                  case rel => exact ⟨t + 1, by omega, by go_num, _, rfl⟩
                  case measure => simp [intOf]; omega
                · have hlt5 : ¬ t < S.size + k := by omega
                  go_wp2
                  go_ret
                  exact ⟨rfl, below_drewN hbel2 _⟩
            · go_wp2
              go_ret
              exact ⟨rfl, below_drewN hbel _⟩
      · have HE := hide hE
        clear hE
        go_wp2_with (go_at_call 10; refine (zzunpad_no ys _ n _ hy h16 (by omega) HO.out hr (fun k h => HE.out ⟨k, h⟩)).mono ?_; rintro e w2 ⟨rfl, rfl⟩)
        go_ret
        exact ⟨rfl, hbel⟩

theorem walk (a0 : Option Addr) (len0 cap0 : Nat) (z0 : List Int) (w : World) (w0 : IsRow .u8 w a0 len0 cap0 z0) :
    Calls Try.prog 6 #[.slice a0 len0 cap0] w fun e w' => e = .returned (.bool true) ∧ Below w.heap.size w w' := by
  by_cases h16 : 16 ≤ len0
  · rcases w0 with ⟨_, h, _⟩ | ⟨x, rfl, hlc, hcm, hzl, hc, hw⟩
    · omega
    unfold maxLen at hcm
    by_cases hs : len0 ≤ 1048576
    · obtain ⟨b, off, ys, rfl, hy, hb, hcy, hr⟩ := IsRow.bytes hlc hzl (by omega) hc hw
      exact walk_main b off len0 cap0 ys w hy h16 hs hb hcy hr
    · clear hc hw
      go_enter Try.func6, Try.ntmps6
      go_wp2_with (go_at_call 12; refine (zzb_no _ _ _ _ hs (by omega)).mono ?_; rintro e w1 ⟨rfl, rfl⟩)
      go_ret
      exact ⟨rfl, Below.refl _ _⟩
  · clear w0
    go_enter Try.func6, Try.ntmps6
    go_wp2_with (go_at_call 12; refine (zzb_yes _ _ _ _ (by omega)).mono ?_; rintro e w1 ⟨rfl, rfl⟩)
    go_ret
    exact ⟨rfl, Below.refl _ _⟩
end Go.Proofs.Qxb6601962a.fnPadInvertsUnpad
