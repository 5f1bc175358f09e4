/-
  ZZPush: its contract.
-/
import Derived.Test.Qxb6602372aPush
namespace Go.Proofs.Qxb6602372a
open Go.RowKit

/-- the words behind a push at depth d -/
def pushL (zs : List Int) (d : Nat) (o : Bool) : List Int :=
  if d / 64 < zs.length then zs.set (d / 64) (newWord (zs.getD (d / 64) 0) (d % 64) o) else zs ++ [newWord 0 0 o]

theorem push_set' (base B g n cap d : Nat) (zs : List Int) (o : Bool) (w : World) (hn : n ≤ 131072) (hd : d / 64 < n) (hgB : g ≠ B) (hbB : base ≤ B)
    (c0 : w.cell? ⟨B, 0, none⟩ = some (.slice (some ⟨g, 0, none⟩) n cap)) (c1 : w.cell? ⟨B, 1, none⟩ = some (.int .i64 d)) (f1 : w.frozen? ⟨B, 1, none⟩ = false)
    (hrow : Row w base g n cap zs) :
    Calls Try.prog 29 #[.pointer (some ⟨B, 0, none⟩), .bool o] w fun e w' => e = .returned (.tuple #[]) ∧
      w'.cell? ⟨B, 0, none⟩ = some (.slice (some ⟨g, 0, none⟩) n cap) ∧ w'.cell? ⟨B, 1, none⟩ = some (.int .i64 (d + 1)) ∧ Row w' base g n cap (zs.set (d / 64) (newWord (zs.getD (d / 64) 0) (d % 64) o)) ∧ Below base w w' := by
  refine (push_set base B g n cap d zs o w hn hd hgB c0 c1 f1 hrow).mono ?_
  rintro e w' ⟨rfl, q, rfl⟩
  have hbg : base ≤ g := (World.ownsRow.lt hrow g rfl).1
  refine ⟨rfl, ?_, ?_, ((hrow.drewN q).store _ _).beside B 1 _ hgB, ((below_drewN (Below.refl base w) q).setCell hbg _).setCell hbB _⟩
  · rw [cset_other (show (⟨B, 1, none⟩ : Addr) ≠ ⟨B, 0, none⟩ by simp), cset_other (show (⟨g, d / 64, none⟩ : Addr) ≠ ⟨B, 0, none⟩ from fun e => hgB (congrArg Addr.block e))]
    exact c0
  · have e1 : ((w.drewN q).setCell ⟨g, d / 64, none⟩ (.int .u64 (newWord (zs.getD (d / 64) 0) (d % 64) o))).cell? ⟨B, 1, none⟩ = some (.int .i64 d) := by
      rw [cset_other (show (⟨g, d / 64, none⟩ : Addr) ≠ ⟨B, 1, none⟩ from fun e => hgB (congrArg Addr.block e))]; exact c1
    rw [cset_same e1]

theorem box_cell0 (w : World) (a b : Value) : (w.alloc (.cells #[a, b] 39)).cell? ⟨w.heap.size, 0, none⟩ = some a := (World.cell?_alloc_at (w := w) #[a, b] 39 w.heap.size 0 rfl).trans rfl
theorem box_cell1 (w : World) (a b : Value) : (w.alloc (.cells #[a, b] 39)).cell? ⟨w.heap.size, 1, none⟩ = some b := (World.cell?_alloc_at (w := w) #[a, b] 39 w.heap.size 1 rfl).trans rfl
theorem box_heap (w : World) (a b : Value) : (w.alloc (.cells #[a, b] 39)).heap[w.heap.size]? = some (.cells #[a, b] 39 (0, 0)) := heap_alloc_new w _
theorem box_frozen (w : World) (a b : Value) (j : Nat) : (w.alloc (.cells #[a, b] 39)).frozen? ⟨w.heap.size, j, none⟩ = false := frozen_of_row _ _ _ _ _ (box_heap w a b)

set_option maxHeartbeats 800000 in
theorem zzpush_set (base g n cap d : Nat) (zs : List Int) (o : Bool) (w : World) (hn : n ≤ 131072) (hd : d / 64 < n) (hbase : base ≤ w.heap.size) (hrow : Row w base g n cap zs) :
    Calls Try.prog 24 #[.slice (some ⟨g, 0, none⟩) n cap, .int .i64 d, .bool o] w fun e w' => e = .returned (.tuple #[.slice (some ⟨g, 0, none⟩) n cap, .int .i64 (d + 1)]) ∧
      Row w' base g n cap (zs.set (d / 64) (newWord (zs.getD (d / 64) 0) (d % 64) o)) ∧ Below base w w' := by
  have HR := hide hrow
  have hlt : g < w.heap.size := (World.ownsRow.lt hrow g rfl).2
  clear hrow
  go_enter Try.func24, Try.ntmps24
  go_wp2_with fail
  refine (push_set' base w.heap.size g n cap d zs o _ hn hd (by omega) hbase (box_cell0 w _ _) (box_cell1 w _ _) (box_frozen w _ _ 1) (World.ownsRow.alloc HR.out _)).mono ?_
  rintro e w1 ⟨rfl, hc0, hc1, hr1, hb1⟩
  have HR1 := hide hr1
  have HB1 : Hid (Below base w w1) := ((Below.refl base w).alloc hbase _).trans hb1
  clear hr1 hb1
  go_wp2_with fail
  go_quiet (fail)
  go_wp2_with fail
  go_ret2
  exact ⟨rfl, HR1.out.drewN _, below_drewN HB1.out _⟩

set_option maxHeartbeats 800000 in
theorem zzpush_grow (base n cap d : Nat) (a : Option Addr) (zs : List Int) (o : Bool) (w : World) (hn : n ≤ 131072) (hd : d = 64 * n) (hbase : base ≤ w.heap.size) (hown : w.ownsRow base 33 1 (.slice a n cap) n (zs.map (Value.int .u64))) :
    Calls Try.prog 24 #[.slice a n cap, .int .i64 d, .bool o] w fun e w' => ∃ g' cap', e = .returned (.tuple #[.slice (some ⟨g', 0, none⟩) (n + 1) cap', .int .i64 (d + 1)]) ∧
      Row w' base g' (n + 1) cap' (zs ++ [newWord 0 0 o]) ∧ Below base w w' := by
  have HR := hide hown
  have HD := hide hd
  clear hown hd
  go_enter Try.func24, Try.ntmps24
  go_wp2_with fail
  refine (push_grow base w.heap.size n cap d a zs o _ hn HD.out ⟨_, _, box_heap w _ _⟩ hbase (box_cell0 w _ _) (box_cell1 w _ _) (box_frozen w _ _ 0) (box_frozen w _ _ 1) (World.ownsRow.alloc HR.out _)).mono ?_
  rintro e w1 ⟨rfl, g', cap', hc0, hc1, hr1, hb1⟩
  have HR1 := hide hr1
  have HB1 : Hid (Below base w w1) := ((Below.refl base w).alloc hbase _).trans hb1
  clear hr1 hb1
  go_wp2_with fail
  go_quiet (fail)
  go_wp2_with fail
  go_ret2
  exact ⟨g', cap', rfl, HR1.out.drewN _, below_drewN HB1.out _⟩

theorem pushL_set {zs : List Int} {d n : Nat} {o : Bool} (hl : zs.length = n) (hd : d / 64 < n) : pushL zs d o = zs.set (d / 64) (newWord (zs.getD (d / 64) 0) (d % 64) o) := by
  unfold pushL; rw [if_pos (by omega)]
theorem pushL_grow {zs : List Int} {d n : Nat} {o : Bool} (hl : zs.length = n) (hd : d = 64 * n) : pushL zs d o = zs ++ [newWord 0 0 o] := by
  unfold pushL; rw [if_neg (by omega)]
/-- one contract for both ways -/
theorem zzpush_any (base n cap d : Nat) (a : Option Addr) (zs : List Int) (o : Bool) (w : World) (hn : n ≤ 131072) (hd : d ≤ 64 * n) (hbase : base ≤ w.heap.size) (hown : w.ownsRow base 33 1 (.slice a n cap) n (zs.map (Value.int .u64))) :
    Calls Try.prog 24 #[.slice a n cap, .int .i64 d, .bool o] w fun e w' => ∃ g' cap', e = .returned (.tuple #[.slice (some ⟨g', 0, none⟩) (pushL zs d o).length cap', .int .i64 (d + 1)]) ∧
      Row w' base g' (pushL zs d o).length cap' (pushL zs d o) ∧ Below base w w' := by
  have hl : zs.length = n := by simpa using hown.1
  by_cases h : d / 64 < n
  · rcases hown.2 with ⟨hv, h0⟩ | ⟨g, cap', cur, hv, _⟩
    · omega
    · simp only [Value.slice.injEq] at hv
      obtain ⟨rfl, _, rfl⟩ := hv
      refine (zzpush_set base g n cap d zs o w hn h hbase hown).mono ?_
      rintro e w' ⟨rfl, hr, hb⟩
      have hL : (pushL zs d o).length = n := by rw [pushL_set hl h]; simpa using hl
      rw [hL, pushL_set hl h]
      exact ⟨g, cap, rfl, hr, hb⟩
  · have hd' : d = 64 * n := by omega
    refine (zzpush_grow base n cap d a zs o w hn hd' hbase hown).mono ?_
    rintro e w' ⟨g', cap', rfl, hr, hb⟩
    have hL : (pushL zs d o).length = n + 1 := by rw [pushL_grow hl hd']; simp [hl]
    rw [hL, pushL_grow hl hd']
    exact ⟨g', cap', rfl, hr, hb⟩
end Go.Proofs.Qxb6602372a
