/-
  FnPushSetsOnlyTheNewBit: the walk.
-/
import Derived.Test.Qxb6602372aClone
namespace Go.Proofs.Qxb6602372a.fnPushSetsOnlyTheNewBit
open Go.RowKit

theorem zzpush_L (base n cap d L : Nat) (a : Option Addr) (zs R : List Int) (o : Bool) (w : World) (hR : R = pushL zs d o) (hL : R.length = L) (hn : n ≤ 131072) (hd : d ≤ 64 * n) (hbase : base ≤ w.heap.size) (hown : w.ownsRow base 33 1 (.slice a n cap) n (zs.map (Value.int .u64))) :
    Calls Try.prog 24 #[.slice a n cap, .int .i64 d, .bool o] w fun e w' => ∃ g' cap', e = .returned (.tuple #[.slice (some ⟨g', 0, none⟩) L cap', .int .i64 (d + 1)]) ∧
      Row w' base g' L cap' R ∧ Below base w w' := by
  subst hR
  subst hL
  exact zzpush_any base n cap d a zs o w hn hd hbase hown

theorem below_grown {w w' : World} (hb : Below w.heap.size w w') : w.grownBy w' none := ⟨hb.os, hb.tape, hb.output, hb.size, fun k hk _ => hb.block k hk⟩

theorem getD_rng {zs : List Int} {lo hi : Int} (hr : ∀ z ∈ zs, lo ≤ z ∧ z ≤ hi) (j : Nat) (h : j < zs.length) : lo ≤ zs.getD j 0 ∧ zs.getD j 0 ≤ hi := by
  have e : zs.getD j 0 = zs[j] := by simp [List.getD, h]
  rw [e]; exact hr _ (List.getElem_mem _)

/-- what the new words are -/
structure Pushed (zs R : List Int) (n d L : Nat) (o : Bool) : Prop where
  len : R.length = L
  lo : n ≤ L
  big : d = 64 * n → L = n + 1
  small : d < 64 * n → L = n
  same : ∀ k, k < L → k ≠ d / 64 → k < n ∧ R.getD k 0 = zs.getD k 0
  new : R.getD (d / 64) 0 = newWord (if d / 64 < n then zs.getD (d / 64) 0 else 0) (d % 64) o

theorem pushed (zs : List Int) (n d : Nat) (o : Bool) (hl : zs.length = n) (hd : d ≤ 64 * n) : Pushed zs (pushL zs d o) n d (pushL zs d o).length o := by
  by_cases h : d / 64 < n
  · rw [pushL_set hl h]
    have hL : (zs.set (d / 64) (newWord (zs.getD (d / 64) 0) (d % 64) o)).length = n := by simpa using hl
    refine ⟨rfl, by omega, fun e => by omega, fun _ => hL, fun k hk hne => ⟨by omega, ?_⟩, ?_⟩
    · rw [getD_set (by omega), if_neg hne]
    · rw [getD_set (by omega), if_pos rfl, if_pos h]
  · have hd' : d = 64 * n := by omega
    rw [pushL_grow hl hd']
    have hq : d / 64 = n := by omega
    refine ⟨rfl, by simp; omega, fun _ => by simp [hl], fun e => by omega, fun k hk hne => ?_, ?_⟩
    · have hk2 : k < n := by simp at hk; omega
      exact ⟨hk2, by simp [List.getD, List.getElem?_append, hl, hk2]⟩
    · rw [hq, if_neg (by omega), show d % 64 = 0 by omega]
      simp [List.getD, hl]

set_option maxHeartbeats 3200000 in
set_option maxRecDepth 100000 in
theorem walk_main (a : Option Addr) (n c d : Nat) (zs : List Int) (o : Bool) (w : World) (hn : n ≤ 131072) (hd : d ≤ 64 * n) (hl : zs.length = n)
    (hc : Calls Try.prog 23 #[.slice a n c] w fun e w' => e = .returned (.slice (some ⟨w.heap.size, 0, none⟩) n n) ∧ Row w' w.heap.size w.heap.size n n zs ∧ Below w.heap.size w w') (hz : ∀ z ∈ zs, 0 ≤ z ∧ z ≤ 18446744073709551615) :
    Calls Try.prog 9 #[.slice a n c, .int .i64 d, .bool o] w fun e w' => e = .returned (.bool true) ∧ Below w.heap.size w w' := by
  have HC := hide hc
  have HZ := hide hz
  clear hc hz
  go_enter Try.func9, Try.ntmps9
  go_wp2_with (go_at_call 22; refine (zzb22_yes _ _ _ _ _ _ (by omega)).mono ?_; rintro e w1 ⟨rfl, rfl⟩)
  refine (show Calls Try.prog 23 #[.slice a n c] w _ from HC.out).mono ?_
  rintro e w1 ⟨rfl, hr1, hb1⟩
  have hlt1 : w.heap.size < w1.heap.size := (World.ownsRow.lt hr1 _ rfl).2
  have HR1 := hide hr1
  have HB1 := hide hb1
  clear hr1 hb1
  go_wp2_with fail
  refine (clone_any w1.heap.size w.heap.size 0 n n zs w1 hn hl hlt1 (Nat.le_refl _) (fun j hj => by rw [Nat.zero_add]; exact HR1.out.cell j hj)).mono ?_
  rintro e w2 ⟨rfl, hr2, hb2⟩
  have hr12 : Row w2 w.heap.size w.heap.size n n zs := World.ownsRow.kept HR1.out (below_grown hb2) (.inr (by simp [Value.ownBlock]))
  have HR12 := hide hr12
  have HR2 := hide hr2
  have HB2 := hide hb2
  have hlt2 : w1.heap.size ≤ w2.heap.size := hb2.size
  clear hr12 hr2 hb2 HR1
  go_wp2_with fail
  have P := pushed zs n d o hl hd
  obtain ⟨R, hR⟩ : ∃ R, R = pushL zs d o := ⟨_, rfl⟩
  rw [← hR] at P
  obtain ⟨L, hL⟩ : ∃ L, R.length = L := ⟨_, rfl⟩
  rw [hL] at P
  refine (zzpush_L w1.heap.size n n d L _ zs R o w2 hR hL hn hd hlt2 HR2.out).mono ?_
  rintro e w3 ⟨g', cap', rfl, hr3, hb3⟩
  have HP := hide P
  have hL1 := P.lo
  have hL2 : d < 64 * n → L = n := P.small
  have hL3 : d = 64 * n → L = n + 1 := P.big
  have hLL : L ≤ n + 1 := by
    by_cases h : d < 64 * n
    · have := hL2 h; omega
    · have := hL3 (by omega); omega
  have HG0 : Hid (∀ j, j < n → w3.cell? ⟨w.heap.size, j, none⟩ = some (.int .u64 (zs.getD j 0))) := by
    show ∀ j, j < n → _
    intro j hj
    rw [hb3.cell (p := ⟨w.heap.size, j, none⟩) hlt1]
    exact HR12.out.cell j hj
  have HR3 := hide hr3
  have HBW : Hid (Below w.heap.size w w3) := (HB1.out.trans (HB2.out.mono (Nat.le_of_lt hlt1))).trans (hb3.mono (Nat.le_of_lt hlt1))
  have HH := hide hR
  clear hr3 hb3 P hR hL HR12 HR2 HB1 HB2 hlt1 hlt2
  by_cases hdn : d = 64 * n
  · have hL4 := hL3 hdn
    have hL5 : n + 1 ≤ L := by omega
    have hge : 64 * n ≤ d := by omega
    clear hL2 hL3 hL4 hdn
    go_wp2_with fail
    go_loop [11] (fun i => ∃ k : Nat, k ≤ L ∧ i = .int .i64 k) (fun i => L - (intOf i).toNat)
    case atStart => exact ⟨0, Nat.zero_le _, rfl⟩
    case round =>
      obtain ⟨k, hk, rfl⟩ := hrel
      by_cases hlt : k < L
      · by_cases hkd : k = d / 64
        · have hk1 : 64 * k ≤ d := by omega
          have hk2 : d < 64 * k + 64 := by omega
          obtain ⟨y, hy⟩ : ∃ y, y = R.getD k 0 := ⟨_, rfl⟩
          have hcy : w3.cell? ⟨g', k, none⟩ = some (.int .u64 y) := by rw [HR3.out.cell k hlt, hy]
          have hnew := HP.out.new
          rw [← hkd, ← hy] at hnew
          have HNEW := hide hnew
          clear hy hnew hkd
          have hkn : ¬ k < n := by omega
          have HYX : Hid (y = newWord 0 (d % 64) o) := by show y = _; rw [HNEW.out, if_neg hkn]
          have hyr : 0 ≤ y ∧ y ≤ 18446744073709551615 := by rw [HYX.out]; exact nw_range 0 _ o (by omega) (by omega) (by omega)
          clear HNEW
          go_wp2
          go_loop [14] (fun i => ∃ t : Nat, t ≤ 64 ∧ i = .int .i64 t) (fun i => 64 - (intOf i).toNat)
          case atStart => exact ⟨0, Nat.zero_le _, rfl⟩
          case round =>
            obtain ⟨t, ht, rfl⟩ := hrel
            by_cases ht2 : t < 64
            · by_cases htd : 64 * k + t = d
              · have hby : (bits BinOp.and IntKind.u64 (y / 2 ^ t) 1 == 1) = o := by
                  rw [walk_bit y t hyr.1 hyr.2, HYX.out, nw_bit 0 _ t o (by omega) (by omega) (by omega) ht2, if_pos (by omega)]
                go_wp2
                go_round
                case rel => exact ⟨t + 1, by omega, by go_num⟩
                case measure => simp [intOf]; omega
              · have hby : (bits BinOp.and IntKind.u64 (y / 2 ^ t) 1 == 1) = bitB 0 t := by
                  rw [walk_bit y t hyr.1 hyr.2, HYX.out, nw_bit 0 _ t o (by omega) (by omega) (by omega) ht2, if_neg (by omega)]
                have hbx : (bits BinOp.and IntKind.u64 0 1 == 1) = false := by decide
                rw [bitB_zero] at hby
                go_wp2
                go_round
                case rel => exact ⟨t + 1, by omega, by go_num⟩
                case measure => simp [intOf]; omega
            · go_wp2
              go_round
              case rel => exact ⟨k + 1, by omega, by go_num⟩
              case measure => simp [intOf]; omega
        · obtain ⟨hkn, hsame⟩ := HP.out.same k hlt hkd
          obtain ⟨x, hx⟩ : ∃ x, x = zs.getD k 0 := ⟨_, rfl⟩
          have hcx : w3.cell? ⟨w.heap.size, k, none⟩ = some (.int .u64 x) := by rw [HG0.out k hkn, hx]
          have hcy : w3.cell? ⟨g', k, none⟩ = some (.int .u64 x) := by rw [HR3.out.cell k hlt, hsame, hx]
          clear hx hsame
          have hhi : 64 * k + 64 ≤ d := by omega
          clear hkd
          go_wp2
          go_round
          case rel => exact ⟨k + 1, by omega, by go_num⟩
          case measure => simp [intOf]; omega
      · go_wp2
        go_ret
        exact ⟨rfl, HBW.out⟩
  · have hL4 := hL2 (by omega)
    have hL5 : L ≤ n := by omega
    have hge : d < 64 * n := by omega
    clear hL2 hL3 hL4 hdn
    go_wp2_with fail
    go_loop [11] (fun i => ∃ k : Nat, k ≤ L ∧ i = .int .i64 k) (fun i => L - (intOf i).toNat)
    case atStart => exact ⟨0, Nat.zero_le _, rfl⟩
    case round =>
      obtain ⟨k, hk, rfl⟩ := hrel
      by_cases hlt : k < L
      · by_cases hkd : k = d / 64
        · have hk1 : 64 * k ≤ d := by omega
          have hk2 : d < 64 * k + 64 := by omega
          obtain ⟨y, hy⟩ : ∃ y, y = R.getD k 0 := ⟨_, rfl⟩
          have hcy : w3.cell? ⟨g', k, none⟩ = some (.int .u64 y) := by rw [HR3.out.cell k hlt, hy]
          have hnew := HP.out.new
          rw [← hkd, ← hy] at hnew
          have HNEW := hide hnew
          clear hy hnew hkd
          have hkn : k < n := by omega
          obtain ⟨x, hx⟩ : ∃ x, x = zs.getD k 0 := ⟨_, rfl⟩
          have hcx : w3.cell? ⟨w.heap.size, k, none⟩ = some (.int .u64 x) := by rw [HG0.out k hkn, hx]
          have hxr : 0 ≤ x ∧ x ≤ 18446744073709551615 := by rw [hx]; exact getD_rng HZ.out k (by omega)
          have HYX : Hid (y = newWord x (d % 64) o) := by show y = _; rw [HNEW.out, if_pos hkn, hx]
          have hyr : 0 ≤ y ∧ y ≤ 18446744073709551615 := by rw [HYX.out]; exact nw_range x _ o hxr.1 hxr.2 (by omega)
          clear hx HNEW
          go_wp2
          go_loop [14] (fun i => ∃ t : Nat, t ≤ 64 ∧ i = .int .i64 t) (fun i => 64 - (intOf i).toNat)
          case atStart => exact ⟨0, Nat.zero_le _, rfl⟩
          case round =>
            obtain ⟨t, ht, rfl⟩ := hrel
            by_cases ht2 : t < 64
            · by_cases htd : 64 * k + t = d
              · have hby : (bits BinOp.and IntKind.u64 (y / 2 ^ t) 1 == 1) = o := by
                  rw [walk_bit y t hyr.1 hyr.2, HYX.out, nw_bit x _ t o hxr.1 hxr.2 (by omega) ht2, if_pos (by omega)]
                go_wp2
                go_round
                case rel => exact ⟨t + 1, by omega, by go_num⟩
                case measure => simp [intOf]; omega
              · have hby : (bits BinOp.and IntKind.u64 (y / 2 ^ t) 1 == 1) = bitB x t := by
                  rw [walk_bit y t hyr.1 hyr.2, HYX.out, nw_bit x _ t o hxr.1 hxr.2 (by omega) ht2, if_neg (by omega)]
                have hbx : (bits BinOp.and IntKind.u64 (x / 2 ^ t) 1 == 1) = bitB x t := walk_bit x t hxr.1 hxr.2
                go_wp2
                go_round
                case rel => exact ⟨t + 1, by omega, by go_num⟩
                case measure => simp [intOf]; omega
            · go_wp2
              go_round
              case rel => exact ⟨k + 1, by omega, by go_num⟩
              case measure => simp [intOf]; omega
        · obtain ⟨hkn, hsame⟩ := HP.out.same k hlt hkd
          obtain ⟨x, hx⟩ : ∃ x, x = zs.getD k 0 := ⟨_, rfl⟩
          have hcx : w3.cell? ⟨w.heap.size, k, none⟩ = some (.int .u64 x) := by rw [HG0.out k hkn, hx]
          have hcy : w3.cell? ⟨g', k, none⟩ = some (.int .u64 x) := by rw [HR3.out.cell k hlt, hsame, hx]
          clear hx hsame
          by_cases hlo : d < 64 * k
          · clear hkd
            go_wp2
            go_round
            case rel => exact ⟨k + 1, by omega, by go_num⟩
            case measure => simp [intOf]; omega
          · have hhi : 64 * k + 64 ≤ d := by omega
            clear hkd
            go_wp2
            go_round
            case rel => exact ⟨k + 1, by omega, by go_num⟩
            case measure => simp [intOf]; omega
      · go_wp2
        go_ret
        exact ⟨rfl, HBW.out⟩

set_option maxHeartbeats 1600000 in
set_option maxRecDepth 100000 in
theorem walk_nil (c : Nat) (o : Bool) (w : World) :
    Calls Try.prog 9 #[.slice none 0 c, .int .i64 0, .bool o] w fun e w' => e = .returned (.bool true) ∧ Below w.heap.size w w' := by
  go_enter Try.func9, Try.ntmps9
  go_wp2_with (go_at_call 22; refine (zzb22_yes _ _ _ _ _ _ (by omega)).mono ?_; rintro e w1 ⟨rfl, rfl⟩)
  refine (clone_nil c w).mono ?_
  rintro e w1 ⟨rfl, rfl⟩
  go_wp2_with fail
  refine (clone_nil 0 w).mono ?_
  rintro e w1 ⟨rfl, rfl⟩
  go_wp2_with fail
  obtain ⟨y, hy⟩ : ∃ y, y = newWord 0 0 o := ⟨_, rfl⟩
  refine (zzpush_L w.heap.size 0 0 0 1 none [] [y] o w (by rw [hy]; rfl) rfl (by omega) (by omega) (Nat.le_refl _) (World.ownsRow_nil _ _ _ _)).mono ?_
  rintro e w3 ⟨g', cap', rfl, hr3, hb3⟩
  have hcy : w3.cell? ⟨g', 0, none⟩ = some (.int .u64 y) := by rw [hr3.cell 0 (by omega)]; rfl
  have hyr : 0 ≤ y ∧ y ≤ 18446744073709551615 := by rw [hy]; exact nw_range 0 _ o (by omega) (by omega) (by omega)
  have HYX := hide hy
  have HBW := hide hb3
  clear hr3 hb3 hy
  go_wp2_with fail
  go_loop [11] (fun i => ∃ k : Nat, k ≤ 1 ∧ i = .int .i64 k) (fun i => 1 - (intOf i).toNat)
  case atStart => exact ⟨0, Nat.zero_le _, rfl⟩
  case round =>
    obtain ⟨k, hk, rfl⟩ := hrel
    by_cases hlt : k < 1
    · obtain rfl : k = 0 := by omega
      go_wp2
      go_loop [14] (fun i => ∃ t : Nat, t ≤ 64 ∧ i = .int .i64 t) (fun i => 64 - (intOf i).toNat)
      case atStart => exact ⟨0, Nat.zero_le _, rfl⟩
      case round =>
        obtain ⟨t, ht, rfl⟩ := hrel
        by_cases ht2 : t < 64
        · by_cases htd : t = 0
          · have hby : (bits BinOp.and IntKind.u64 (y / 2 ^ t) 1 == 1) = o := by
              rw [walk_bit y t hyr.1 hyr.2, HYX.out, nw_bit 0 _ t o (by omega) (by omega) (by omega) ht2, if_pos (by omega)]
            have htd2 : ((t : Int) == 0) = true := by simp; omega
            clear htd
            go_wp2
            go_round
            case rel => exact ⟨t + 1, by omega, by go_num⟩
            case measure => simp [intOf]; omega
          · have hby : (bits BinOp.and IntKind.u64 (y / 2 ^ t) 1 == 1) = bitB 0 t := by
              rw [walk_bit y t hyr.1 hyr.2, HYX.out, nw_bit 0 _ t o (by omega) (by omega) (by omega) ht2, if_neg (by omega)]
            have hbx : (bits BinOp.and IntKind.u64 0 1 == 1) = false := by decide
            rw [bitB_zero] at hby
            have htd2 : ((t : Int) == 0) = false := by simp; omega
            go_wp2
            go_round
            case rel => exact ⟨t + 1, by omega, by go_num⟩
            case measure => simp [intOf]; omega
        · go_wp2
          go_round
          case rel => exact ⟨0 + 1, by omega, by go_num⟩
          case measure => simp [intOf]
    · go_wp2
      go_ret
      exact ⟨rfl, HBW.out⟩
end Go.Proofs.Qxb6602372a.fnPushSetsOnlyTheNewBit
