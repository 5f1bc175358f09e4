/-
  cloneWords, the zzBytes_ guards: contracts.
-/
import Derived.Test.Qxb6602372aBits
import Derived.Lib.BufferMore
namespace Go.Proofs.Qxb6602372a
open Go.RowKit

theorem ext_getD {l m : List Int} {n : Nat} (hl : l.length = n) (hm : m.length = n) (h : ∀ j, j < n → l.getD j 0 = m.getD j 0) : l = m := by
  apply List.ext_getElem (by omega)
  intro j h1 h2
  have := h j (by omega)
  simpa [List.getD, h1, h2] using this
theorem getD_set {l : List Int} {k j : Nat} {v : Int} (hk : k < l.length) : (l.set k v).getD j 0 = if j = k then v else l.getD j 0 := by
  by_cases h : j = k
  · subst h; simp [List.getD, hk]
  · rw [if_neg h]; simp [List.getD, List.getElem?_set_ne (show k ≠ j from fun e => h e.symm)]
theorem made_row {w : World} {base g n : Nat} (h : w.ownsRow base 33 1 (.slice (some ⟨g, 0, none⟩) n n) n (madeCells (Value.int .u64 0).cells (n * 1)).toList) : Row w base g n n (List.replicate n 0) := by
  unfold Row
  have e : (madeCells (Value.int .u64 0).cells (n * 1)).toList = (List.replicate n (0 : Int)).map (Value.int .u64) := by
    rw [Nat.mul_one]
    show (madeCells #[Value.int .u64 0] n).toList = _
    rw [toList_madeCells_one, List.map_replicate]
  rw [← e]; exact h

theorem zzb22_yes (a : Option Addr) (n c : Nat) (d : Int) (o : Bool) (w : World) (h1 : n ≤ 1048576) :
    Calls Try.prog 22 #[.slice a n c, .int .i64 d, .bool o] w fun e w' => e = .returned (.bool true) ∧ w = w' := by
  go_enter Try.func22, Try.ntmps22
  go_wp2
  go_ret
  exact ⟨rfl, rfl⟩
theorem zzb22_no (a : Option Addr) (n c : Nat) (d : Int) (o : Bool) (w : World) (h1 : ¬ n ≤ 1048576) (h2 : n ≤ 9223372036854775807) :
    Calls Try.prog 22 #[.slice a n c, .int .i64 d, .bool o] w fun e w' => e = .returned (.bool false) ∧ w = w' := by
  go_enter Try.func22, Try.ntmps22
  go_wp2
  go_ret
  exact ⟨rfl, rfl⟩
theorem zzb25_yes (a : Option Addr) (n c : Nat) (w : World) (h1 : n ≤ 1048576) :
    Calls Try.prog 25 #[.slice a n c] w fun e w' => e = .returned (.bool true) ∧ w = w' := by
  go_enter Try.func25, Try.ntmps25
  go_wp2
  go_ret
  exact ⟨rfl, rfl⟩
theorem zzb25_no (a : Option Addr) (n c : Nat) (w : World) (h1 : ¬ n ≤ 1048576) (h2 : n ≤ 9223372036854775807) :
    Calls Try.prog 25 #[.slice a n c] w fun e w' => e = .returned (.bool false) ∧ w = w' := by
  go_enter Try.func25, Try.ntmps25
  go_wp2
  go_ret
  exact ⟨rfl, rfl⟩

theorem clone_nil (c : Nat) (w : World) :
    Calls Try.prog 23 #[.slice none 0 c] w fun e w' => e = .returned (.slice none 0 0) ∧ w = w' := by
  have hnil : ∀ w : World, (binOp .eql 28 (.slice none 0 c) (.slice none 0 0)).run Try.prog w = .ok (.bool true) w := fun w => Lib.run_eql_slice_nil_nil w 0 c Try.underlying28
  go_enter Try.func23, Try.ntmps23
  go_wp2
  go_ret
  exact ⟨rfl, rfl⟩

theorem clone_zero (base c : Nat) (x : Addr) (w : World) (hbase : base ≤ w.heap.size) :
    Calls Try.prog 23 #[.slice (some x) 0 c] w fun e w' => e = .returned (.slice (some ⟨w.heap.size, 0, none⟩) 0 0) ∧ Row w' base w.heap.size 0 0 [] ∧ Below w.heap.size w w' := by
  obtain ⟨i0, hi, hz0, hz1, hz2⟩ := info_parts Try.info33
  have hnil : ∀ w : World, (binOp .eql 28 (.slice (some x) 0 c) (.slice none 0 0)).run Try.prog w = .ok (.bool false) w := fun w => Lib.run_eql_slice_some_nil w _ 0 c Try.underlying28
  go_enter Try.func23, Try.ntmps23
  go_wp2_with (at_make; refine wpList_make_full _ rfl _ _ 28 rfl base 33 i0 (.int .u64 0) 1 Try.underlying28 hi hz0 hz1 _ _ _ _ 0 rfl rfl rfl rfl (by omega) (by unfold maxLen; omega) hbase ?_; intro w0 hown0 hgrow0)
  have hb0 : Below w.heap.size w w0 := (Below.refl _ _).grown hgrow0 (Nat.le_refl _) (fun k h => by cases h)
  have hr0 := made_row hown0
  clear hown0 hgrow0 hnil
  go_loop [4] (fun i => i = .int .i64 0) (fun i => 0)
  case atStart => rfl
  case round =>
    subst hrel
    go_wp2
    go_ret
    exact ⟨rfl, hr0, hb0⟩

set_option maxHeartbeats 800000 in
theorem clone_any (base b off n c : Nat) (qs : List Int) (w : World) (hn : n ≤ 131072) (hl : qs.length = n) (hb : b < w.heap.size) (hbase : base ≤ w.heap.size)
    (hc : ∀ j, j < n → w.cell? ⟨b, off + j, none⟩ = some (.int .u64 (qs.getD j 0))) :
    Calls Try.prog 23 #[.slice (some ⟨b, off, none⟩) n c] w fun e w' => e = .returned (.slice (some ⟨w.heap.size, 0, none⟩) n n) ∧ Row w' base w.heap.size n n qs ∧ Below w.heap.size w w' := by
  obtain ⟨i0, hi, hz0, hz1, hz2⟩ := info_parts Try.info33
  have HC := hide hc
  clear hc
  have hnil : ∀ w : World, (binOp .eql 28 (.slice (some ⟨b, off, none⟩) n c) (.slice none 0 0)).run Try.prog w = .ok (.bool false) w := fun w => Lib.run_eql_slice_some_nil w _ n c Try.underlying28
  go_enter Try.func23, Try.ntmps23
  go_wp2_with (at_make; refine wpList_make_full _ rfl _ _ 28 rfl base 33 i0 (.int .u64 0) 1 Try.underlying28 hi hz0 hz1 _ _ _ _ n rfl rfl rfl rfl (by rw [hz2]; omega) (by unfold maxLen; omega) hbase ?_; intro w0 hown0 hgrow0)
  have hb0 : Below w.heap.size w w0 := (Below.refl _ _).grown hgrow0 (Nat.le_refl _) (fun k h => by cases h)
  have hr0 := made_row hown0
  clear hown0 hgrow0 hnil
  go_loopw [4] (fun i wr => ∃ (m : Nat) (xs : List Int), m ≤ n ∧ i = .int .i64 m ∧ (∀ j, j < m → xs.getD j 0 = qs.getD j 0) ∧ Row wr base w.heap.size n n xs ∧ Below w.heap.size w wr)
    (fun i _ => n - (intOf i).toNat)
  case atStart => exact ⟨0, _, Nat.zero_le _, rfl, fun j h => by omega, hr0, hb0⟩
  case round =>
    obtain ⟨m, xs, hm, rfl, hxs, hrow, hbel⟩ := hrel
    have HX := hide hxs
    have HR := hide hrow
    have hxl := hrow.len
    clear hxs hrow
    by_cases hlt : m < n
    · obtain ⟨y, hy⟩ : ∃ y, y = qs.getD m 0 := ⟨_, rfl⟩
      have hcm : wr.cell? ⟨b, off + m, none⟩ = some (.int .u64 y) := by rw [hbel.cell (p := ⟨b, off + m, none⟩) hb, HC.out m hlt, hy]
      have hfr := HR.out.frozen m
      have hce := HR.out.cell m hlt
      have HY := hide hy
      clear hy
      go_wp2
      go_roundw
      case rel =>
        refine ⟨m + 1, xs.set m y, by omega, by go_num, fun j hj => ?_, HR.out.store m y, hbel.setCell (Nat.le_refl _) _⟩
        rw [getD_set (by omega)]
        by_cases e : j = m
        · rw [if_pos e, e, HY.out]
        · rw [if_neg e]; exact HX.out j (by omega)
      case measure => simp [intOf]; omega
    · obtain rfl : xs = qs := ext_getD hxl hl (fun j hj => HX.out j (by omega))
      go_wp2
      go_ret
      exact ⟨rfl, HR.out, hbel⟩
end Go.Proofs.Qxb6602372a
