/-
  FnPushScriptRecordsEachFlag: the walk.
-/
import Derived.Test.Qxb6602372aScriptMath
namespace Go.Proofs.Qxb6602372a.fnPushScriptRecordsEachFlag
open Go.RowKit

theorem own_some {w : World} {base n cap : Nat} {a : Option Addr} {xs : List Value} (h : w.ownsRow base 33 1 (.slice a n cap) n xs) (hn : 0 < n) : ∃ g, a = some ⟨g, 0, none⟩ := by
  rcases h.2 with ⟨_, h'⟩ | ⟨g, cap', cur, hv, _⟩
  · omega
  · simp only [Value.slice.injEq] at hv
    exact ⟨g, hv.1⟩

set_option maxHeartbeats 1600000 in
set_option maxRecDepth 100000 in
theorem walk_main (b off n c : Nat) (B : Nat → Bool) (w : World) (hn : n ≤ 65536) (hb : b < w.heap.size)
    (hc : ∀ j, j < n → w.cell? ⟨b, off + j, none⟩ = some (.bool (B j))) :
    Calls Try.prog 10 #[.slice (some ⟨b, off, none⟩) n c] w fun e w' => e = .returned (.bool true) ∧ Below w.heap.size w w' := by
  have HC := hide hc
  clear hc
  go_enter Try.func10, Try.ntmps10
  go_wp2_with (go_at_call 25; refine (zzb25_yes _ _ _ _ (by omega)).mono ?_; rintro e w1 ⟨rfl, rfl⟩)
  go_loopw [3, 4, 5] (fun v dv i wr => ∃ (k m cap : Nat) (a : Option Addr), k ≤ n ∧ i = .int .i64 k ∧ dv = .int .i64 k ∧ v = .slice a m cap ∧ m = (script B k).length ∧ wr.ownsRow w.heap.size 33 1 (.slice a m cap) m ((script B k).map (Value.int .u64)) ∧ Below w.heap.size w wr)
    (fun _ _ i _ => n - (intOf i).toNat)
  case atStart => exact ⟨0, 0, 0, none, Nat.zero_le _, rfl, rfl, rfl, rfl, World.ownsRow_nil _ _ _ _, Below.refl _ _⟩
  case round =>
    obtain ⟨k, m, cap, a, hk, rfl, rfl, rfl, hm, hown, hbel⟩ := hrel
    have hml : m = (k + 63) / 64 := by rw [hm, (recs B k).len]
    have HO := hide hown
    have HB := hide hbel
    have HM := hide hm
    have hm1 : k ≤ 64 * m := by omega
    have hm2 : m ≤ 131072 := by omega
    have hm3 : 64 * m ≤ k + 63 := by omega
    clear hown hbel hm hml
    by_cases hlt : k < n
    · have hcb : wr.cell? ⟨b, off + k, none⟩ = some (.bool (B k)) := by rw [HB.out.cell (p := ⟨b, off + k, none⟩) hb]; exact HC.out k hlt
      go_wp2_with (go_at_call 24; refine (zzpush_any w.heap.size m cap k a (script B k) (B k) _ hm2 hm1 HB.out.size HO.out).mono ?_; rintro e w2 ⟨g', cap', rfl, hr2, hb2⟩)
      go_roundw
      case rel => exact ⟨k + 1, _, cap', some ⟨g', 0, none⟩, by omega, by go_num, by go_num, rfl, rfl, hr2, HB.out.trans hb2⟩
      case measure => simp [intOf]; omega
    · have hkn : k = n := by omega
      subst hkn
      by_cases hm0 : 0 < m
      · obtain ⟨g, rfl⟩ := own_some HO.out hm0
        have hrow : Row wr w.heap.size g m cap (script B k) := HO.out
        have HR := hide hrow
        clear hrow
        have HCW : Hid (∀ j, j < k → wr.cell? ⟨b, off + j, none⟩ = some (.bool (B j))) := by
          show ∀ j, j < k → _
          intro j hj
          rw [HB.out.cell (p := ⟨b, off + j, none⟩) hb]; exact HC.out j hj
        go_wp2_with fail
        go_loop [6] (fun i => ∃ t : Nat, t ≤ 64 * m ∧ i = .int .i64 t) (fun i => 64 * m - (intOf i).toNat)
        case atStart => exact ⟨0, Nat.zero_le _, rfl⟩
        case round =>
          obtain ⟨t, ht, rfl⟩ := hrel
          by_cases hlt2 : t < 64 * m
          · obtain ⟨x, hx⟩ : ∃ x, x = (script B k).getD (t / 64) 0 := ⟨_, rfl⟩
            have hcx : wr.cell? ⟨g, t / 64, none⟩ = some (.int .u64 x) := by rw [HR.out.cell (t / 64) (by omega), hx]
            have hml := HM.out
            have hxr : 0 ≤ x ∧ x ≤ 18446744073709551615 := by rw [hx]; exact (recs B k).rng (t / 64) (by omega)
            have hbit : (bits BinOp.and IntKind.u64 (x / 2 ^ (t % 64)) 1 == 1) = (decide (t < k) && B t) := by
              rw [walk_bit x _ hxr.1 hxr.2, hx]; exact (recs B k).bit t (by omega)
            clear hx hml
            by_cases htk : t < k
            · have hcb : wr.cell? ⟨b, off + t, none⟩ = some (.bool (B t)) := HCW.out t htk
              have hbit2 : (bits BinOp.and IntKind.u64 (x / 2 ^ (t % 64)) 1 == 1) = B t := by rw [hbit]; simp [htk]
              clear hbit
              go_wp2
              go_round
              case rel => exact ⟨t + 1, by omega, by go_num⟩
              case measure => simp [intOf]; omega
            · have hbit2 : (bits BinOp.and IntKind.u64 (x / 2 ^ (t % 64)) 1 == 1) = false := by rw [hbit]; simp [htk]
              clear hbit
              go_wp2
              go_round
              case rel => exact ⟨t + 1, by omega, by go_num⟩
              case measure => simp [intOf]; omega
          · go_wp2
            go_ret
            exact ⟨rfl, HB.out⟩
      · obtain rfl : m = 0 := by omega
        go_wp2_with fail
        go_loop [6] (fun i => i = .int .i64 0) (fun i => 0)
        case atStart => rfl
        case round =>
          subst hrel
          go_wp2
          go_ret
          exact ⟨rfl, HB.out⟩

set_option maxHeartbeats 800000 in
theorem walk_zero (a : Option Addr) (c : Nat) (w : World) :
    Calls Try.prog 10 #[.slice a 0 c] w fun e w' => e = .returned (.bool true) ∧ Below w.heap.size w w' := by
  go_enter Try.func10, Try.ntmps10
  go_wp2_with (go_at_call 25; refine (zzb25_yes _ _ _ _ (by omega)).mono ?_; rintro e w1 ⟨rfl, rfl⟩)
  go_loop [3, 4, 5] (fun v dv i => v = .slice none 0 0 ∧ dv = .int .i64 0 ∧ i = .int .i64 0) (fun _ _ _ => 0)
  case atStart => exact ⟨rfl, rfl, rfl⟩
  case round =>
    obtain ⟨rfl, rfl, rfl⟩ := hrel
    go_wp2_with fail
    go_loop [6] (fun i => i = .int .i64 0) (fun i => 0)
    case atStart => rfl
    case round =>
      subst hrel
      go_wp2
      go_ret
      exact ⟨rfl, Below.refl _ _⟩

/-- WHAT THE WALK IS TOLD OF A SLICE OF BOOLS THAT CAME IN -/
def IsBools (w : World) (a : Option Addr) (len cap : Nat) (B : Nat → Bool) : Prop :=
  (a = none ∧ len = 0 ∧ cap = 0) ∨ ∃ x, a = some x ∧ len ≤ cap ∧ cap ≤ maxLen ∧ ∀ i, i < cap → w.cell? (x.add i) = some (.bool (B i))

set_option maxHeartbeats 800000 in
theorem walk (a0 : Option Addr) (len0 cap0 : Nat) (B : Nat → Bool) (w : World) (w0 : IsBools w a0 len0 cap0 B) :
    Calls Try.prog 10 #[.slice a0 len0 cap0] w fun e w' => e = .returned (.bool true) ∧ Below w.heap.size w w' := by
  by_cases g1 : 1 ≤ len0
  · rcases w0 with ⟨_, h, _⟩ | ⟨x, rfl, hlc, hcm, hc⟩
    · omega
    unfold maxLen at hcm
    by_cases g2 : len0 ≤ 65536
    · obtain ⟨b, off, spot⟩ := x
      have hspot : spot = none := by simpa [Addr.add] using World.cell?_spot (hc 0 (by omega))
      subst hspot
      have hc' : ∀ j, j < cap0 → w.cell? ⟨b, off + j, none⟩ = some (.bool (B j)) := fun j hj => by have := hc j hj; rwa [Addr.add_lit] at this
      have hb : b < w.heap.size := by
        have h := hc' 0 (by omega)
        unfold World.cell? at h
        by_cases hb : b < w.heap.size
        · exact hb
        · simp [Array.getElem?_eq_none (show w.heap.size ≤ b by omega)] at h
      exact walk_main b off len0 cap0 B w g2 hb (fun j hj => hc' j (by omega))
    · clear hc
      by_cases g3 : len0 ≤ 1048576
      · go_enter Try.func10, Try.ntmps10
        go_wp2_with (go_at_call 25; refine (zzb25_yes _ _ _ _ g3).mono ?_; rintro e w1 ⟨rfl, rfl⟩)
        go_ret
        exact ⟨rfl, Below.refl _ _⟩
      · go_enter Try.func10, Try.ntmps10
        go_wp2_with (go_at_call 25; refine (zzb25_no _ _ _ _ g3 (by omega)).mono ?_; rintro e w1 ⟨rfl, rfl⟩)
        go_ret
        exact ⟨rfl, Below.refl _ _⟩
  · obtain rfl : len0 = 0 := by omega
    exact walk_zero a0 cap0 w
end Go.Proofs.Qxb6602372a.fnPushScriptRecordsEachFlag
