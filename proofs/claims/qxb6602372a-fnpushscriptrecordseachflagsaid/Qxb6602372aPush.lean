/-
  (*nesting).push: contracts.
-/
import Derived.Test.Qxb6602372aRows
import Derived.WalkKit
import Derived.ProofKit
import Derived.OpenShut
import Derived.WalkSmall
import Derived.BigQuiet
import Derived.Deep.QuietTactic
namespace Go.Proofs.Qxb6602372a
open Go.RowKit

theorem Try.info33 : (Try.prog.info? 33).map (fun i => (i.zero, i.size, i.bytes)) = some (some (.int .u64 0), 1, 8) := by kernel_rfl
theorem hide {p : Prop} (h : p) : Hid p := h

/-- the word x with its bit b set to o, as the Go text makes it -/
def newWord (x : Int) (b : Nat) (o : Bool) : Int := if o then bits .or .u64 x (IntKind.u64.wrap (2 ^ b)) else bits .andNot .u64 x (IntKind.u64.wrap (2 ^ b))

/-- a slice of words of its own row -/
def Row (w : World) (base g n cap : Nat) (zs : List Int) : Prop := w.ownsRow base 33 1 (.slice (some ⟨g, 0, none⟩) n cap) n (zs.map (Value.int .u64))
theorem Row.len {w : World} {base g n cap : Nat} {zs : List Int} (h : Row w base g n cap zs) : zs.length = n := by simpa using h.1
theorem Row.cell {w : World} {base g n cap : Nat} {zs : List Int} (h : Row w base g n cap zs) (j : Nat) (hj : j < n) : w.cell? ⟨g, j, none⟩ = some (.int .u64 (zs.getD j 0)) := by
  have hl := h.len
  unfold Row at h
  rw [h.cellAt j (by omega)]
  simp [List.getElem?_eq_getElem (show j < zs.length by omega), List.getD]
theorem Row.frozen {w : World} {base g n cap : Nat} {zs : List Int} (h : Row w base g n cap zs) (j : Nat) : w.frozen? ⟨g, j, none⟩ = false := World.ownsRow.frozenAt h j
theorem Row.store {w : World} {base g n cap : Nat} {zs : List Int} (h : Row w base g n cap zs) (j : Nat) (v : Int) : Row (w.setCell ⟨g, j, none⟩ (.int .u64 v)) base g n cap (zs.set j v) := by
  have := (World.ownsRow.stored h j (.int .u64 v)).1
  unfold Row
  rw [List.map_set]
  exact this
theorem Row.drewN {w : World} {base g n cap : Nat} {zs : List Int} (h : Row w base g n cap zs) (q : Nat) : Row (w.drewN q) base g n cap zs := h
theorem Row.beside {w : World} {base g n cap : Nat} {zs : List Int} (h : Row w base g n cap zs) (B j : Nat) (v : Value) (hne : g ≠ B) : Row (w.setCell ⟨B, j, none⟩ v) base g n cap zs :=
  World.ownsRow.kept (row := some B) h ⟨rfl, rfl, rfl, by simp, fun k _ hk => Below.heap_setCell w ⟨B, j, none⟩ v k (fun e => hk (by simp [e]))⟩ (.inr (by simp [Value.ownBlock]; exact hne))

/-- the word is there already -/
theorem push_set (base B g n cap d : Nat) (zs : List Int) (o : Bool) (w : World) (hn : n ≤ 131072) (hd : d / 64 < n) (hgB : g ≠ B)
    (c0 : w.cell? ⟨B, 0, none⟩ = some (.slice (some ⟨g, 0, none⟩) n cap)) (c1 : w.cell? ⟨B, 1, none⟩ = some (.int .i64 d)) (f1 : w.frozen? ⟨B, 1, none⟩ = false)
    (hrow : Row w base g n cap zs) :
    Calls Try.prog 29 #[.pointer (some ⟨B, 0, none⟩), .bool o] w fun e w' => e = .returned (.tuple #[]) ∧
      ∃ q, w' = ((w.drewN q).setCell ⟨g, d / 64, none⟩ (.int .u64 (newWord (zs.getD (d / 64) 0) (d % 64) o))).setCell ⟨B, 1, none⟩ (.int .i64 (d + 1)) := by
  have hd2 : d < 8388608 := by omega
  obtain ⟨x, hx⟩ : ∃ x, x = zs.getD (d / 64) 0 := ⟨_, rfl⟩
  have cx := hrow.cell (d / 64) hd
  rw [← hx] at cx ⊢
  have fx := hrow.frozen (d / 64)
  clear hrow hx
  cases o
  · go_enter Try.func29, Try.ntmps29
    go_wp2
    go_quiet (fail)
    go_wp2
    go_end0
    exact ⟨rfl, _, rfl⟩
  · go_enter Try.func29, Try.ntmps29
    go_wp2
    go_quiet (fail)
    go_wp2
    go_end0
    exact ⟨rfl, _, rfl⟩

theorem own_shape {w : World} {base n : Nat} {v : Value} {xs : List Value} (h : w.ownsRow base 33 1 v (n + 1) xs) : ∃ g cap, v = .slice (some ⟨g, 0, none⟩) (n + 1) cap ∧ base ≤ g ∧ ∃ cur, w.heap[g]? = some (.cells cur 33 (0, 0)) := by
  rcases h.2 with ⟨_, h'⟩ | ⟨g, cap, cur, hv, hb, hg, _⟩
  · omega
  · exact ⟨g, cap, hv, hb, cur, hg⟩
theorem own_ne {w : World} {base n B : Nat} {v : Value} {xs : List Value} {cs : Array Value} {m : Nat × Nat} (h : w.ownsRow base 33 1 v n xs) (hB : w.heap[B]? = some (.cells cs 39 m)) : some B ≠ v.ownBlock := by
  rcases h.2 with ⟨rfl, _⟩ | ⟨g, cap, cur, rfl, hb, hg, _⟩
  · simp [Value.ownBlock]
  · intro e
    simp [Value.ownBlock] at e
    subst e
    rw [hB] at hg
    simp at hg
theorem heap_lt {w : World} {B : Nat} {o : Obj} (h : w.heap[B]? = some o) : B < w.heap.size := by
  by_cases hb : B < w.heap.size
  · exact hb
  · simp [Array.getElem?_eq_none (show w.heap.size ≤ B by omega)] at h

theorem cset_other {w : World} {a b : Addr} {v : Value} (h : a ≠ b) : (w.setCell a v).cell? b = w.cell? b := World.cell?_setCell_other w a b v h
theorem cset_same {w : World} {a : Addr} {u v : Value} (h : w.cell? a = some u) : (w.setCell a v).cell? a = some v := World.cell?_setCell_same w a v h
theorem new_cell (w : World) (q : Nat) (v : Value) (t : TypeId) : ∀ j u, [v][j]? = some u → ((w.drewN q).alloc (.cells #[v] t)).cell? ((⟨w.heap.size, 0, none⟩ : Addr).add j) = some u := by
  intro j u hj
  match j, hj with
  | 0, hj =>
    simp at hj; subst hj
    show ((w.drewN q).alloc (.cells #[v] t)).cell? ⟨w.heap.size, 0, none⟩ = some v
    exact (World.cell?_alloc_at (w := w.drewN q) #[v] t w.heap.size 0 rfl).trans rfl

structure Grew (w w1 : World) (base B g' n cap' : Nat) (v d : Value) (zs : List Int) : Prop where
  c0 : w1.cell? ⟨B, 0, none⟩ = some v
  c1 : w1.cell? ⟨B, 1, none⟩ = some d
  f0 : w1.frozen? ⟨B, 0, none⟩ = false
  f1 : w1.frozen? ⟨B, 1, none⟩ = false
  ne : g' ≠ B
  cx : w1.cell? ⟨g', n, none⟩ = some (.int .u64 0)
  fx : w1.frozen? ⟨g', n, none⟩ = false
  row : Row w1 base g' (n + 1) cap' (zs ++ [0])
  bel : Below base w w1

theorem grew {w w1 : World} {base B g' n cap cap' q : Nat} {a : Option Addr} {d : Value} {zs : List Int} {cs : Array Value} {mm : Nat × Nat} {o : Obj}
    (hB : w.heap[B]? = some (.cells cs 39 mm)) (hN : some B ≠ (Value.slice a n cap).ownBlock) (hO : w.ownsRow base 33 1 (.slice a n cap) n (zs.map (Value.int .u64))) (hbB : base ≤ B)
    (c0 : w.cell? ⟨B, 0, none⟩ = some (.slice a n cap)) (c1 : w.cell? ⟨B, 1, none⟩ = some d) (f0 : w.frozen? ⟨B, 0, none⟩ = false) (f1 : w.frozen? ⟨B, 1, none⟩ = false)
    (hown1 : w1.ownsRow base 33 1 (.slice (some ⟨g', 0, none⟩) (n + 1) cap') (n + 1) (zs.map (Value.int .u64) ++ [.int .u64 0])) (hgr : ((w.drewN q).alloc o).grownBy w1 (Value.slice a n cap).ownBlock) :
    Grew w w1 base B g' n cap' (.slice a n cap) d zs := by
  have hlt := heap_lt hB
  have hsz : w.heap.size ≤ ((w.drewN q).alloc o).heap.size := by show w.heap.size ≤ ((w.drewN q).alloc o).heap.size; simp [World.drewN]
  have hb0 : ((w.drewN q).alloc o).heap[B]? = w.heap[B]? := Below.heap_alloc (w.drewN q) o B hlt
  have hb1 : w1.heap[B]? = w.heap[B]? := (hgr.block B (by omega) hN).trans hb0
  have hrow : Row w1 base g' (n + 1) cap' (zs ++ [0]) := by unfold Row; rw [List.map_append]; exact hown1
  have hl : zs.length = n := by simpa using hO.1
  refine ⟨(World.cell?_of_block hb1).trans c0, (World.cell?_of_block hb1).trans c1, (World.frozen?_of_block hb1).trans f0, (World.frozen?_of_block hb1).trans f1, ?_, ?_, hrow.frozen n, hrow, ?_⟩
  · have := own_ne hown1 (hb1.trans hB)
    simp [Value.ownBlock] at this
    exact fun e => this e.symm
  · rw [hrow.cell n (by omega)]; simp [List.getD, hl]
  · exact ((below_drewN (Below.refl base w) q).alloc (by show base ≤ w.heap.size; omega) o).grown hgr (by omega) (fun k hk => (hO.lt k hk).1)

theorem grew_end {w w1 : World} {base B g' n cap' : Nat} {v d : Value} {zs : List Int} (h : Grew w w1 base B g' n cap' v d zs) (hl : zs.length = n) (hbB : base ≤ B) (hbg : base ≤ g') (y : Int) (e : Value) (sl : Value) :
    (((w1.setCell ⟨B, 0, none⟩ sl).setCell ⟨g', n, none⟩ (.int .u64 y)).setCell ⟨B, 1, none⟩ e).cell? ⟨B, 0, none⟩ = some sl ∧
    (((w1.setCell ⟨B, 0, none⟩ sl).setCell ⟨g', n, none⟩ (.int .u64 y)).setCell ⟨B, 1, none⟩ e).cell? ⟨B, 1, none⟩ = some e ∧
    Row (((w1.setCell ⟨B, 0, none⟩ sl).setCell ⟨g', n, none⟩ (.int .u64 y)).setCell ⟨B, 1, none⟩ e) base g' (n + 1) cap' (zs ++ [y]) ∧
    Below base w (((w1.setCell ⟨B, 0, none⟩ sl).setCell ⟨g', n, none⟩ (.int .u64 y)).setCell ⟨B, 1, none⟩ e) := by
  have hne := h.ne
  have c0 := h.c0
  have c1 := h.c1
  have hs : (zs ++ [0]).set n y = zs ++ [y] := by rw [← hl]; simp
  refine ⟨?_, ?_, ?_, ((h.bel.setCell hbB _).setCell hbg _).setCell hbB _⟩
  · rw [cset_other (show (⟨B, 1, none⟩ : Addr) ≠ ⟨B, 0, none⟩ by simp), cset_other (show (⟨g', n, none⟩ : Addr) ≠ ⟨B, 0, none⟩ from fun e => hne (congrArg Addr.block e)), cset_same c0]
  · have e1 : ((w1.setCell ⟨B, 0, none⟩ sl).setCell ⟨g', n, none⟩ (.int .u64 y)).cell? ⟨B, 1, none⟩ = some d := by
      rw [cset_other (show (⟨g', n, none⟩ : Addr) ≠ ⟨B, 1, none⟩ from fun e => hne (congrArg Addr.block e)), cset_other (show (⟨B, 0, none⟩ : Addr) ≠ ⟨B, 1, none⟩ by simp), c1]
    rw [cset_same e1]
  · have r1 := ((h.row.beside B 0 sl hne).store n y).beside B 1 e hne
    rw [hs] at r1
    exact r1

theorem nw_false : newWord 0 0 false = bits .andNot .u64 0 1 := by decide
theorem nw_true : newWord 0 0 true = bits .or .u64 0 1 := by decide

/-- the words are full: one more -/
theorem push_grow (base B n cap d : Nat) (a : Option Addr) (zs : List Int) (o : Bool) (w : World) (hn : n ≤ 131072) (hd : d = 64 * n)
    (hB : ∃ cs m, w.heap[B]? = some (.cells cs 39 m)) (hbB : base ≤ B)
    (c0 : w.cell? ⟨B, 0, none⟩ = some (.slice a n cap)) (c1 : w.cell? ⟨B, 1, none⟩ = some (.int .i64 d)) (f0 : w.frozen? ⟨B, 0, none⟩ = false) (f1 : w.frozen? ⟨B, 1, none⟩ = false)
    (hown : w.ownsRow base 33 1 (.slice a n cap) n (zs.map (Value.int .u64))) :
    Calls Try.prog 29 #[.pointer (some ⟨B, 0, none⟩), .bool o] w fun e w' => e = .returned (.tuple #[]) ∧
      ∃ g' cap', w'.cell? ⟨B, 0, none⟩ = some (.slice (some ⟨g', 0, none⟩) (n + 1) cap') ∧ w'.cell? ⟨B, 1, none⟩ = some (.int .i64 (d + 1)) ∧ Row w' base g' (n + 1) cap' (zs ++ [newWord 0 0 o]) ∧ Below base w w' := by
  obtain ⟨i0, hi, hz0, hz1, hz2⟩ := info_parts Try.info33
  have hd2 : d < 8388609 := by omega
  have hdn : (d : Int) / 64 = (n : Int) := by omega
  have hdm : (d : Int) % 64 = 0 := by omega
  have hdn2 : d / 64 = n := by omega
  have HD := hide hd
  have hl : zs.length = n := by simpa using hown.1
  obtain ⟨cs, mm, hB⟩ := hB
  have hBne := own_ne hown hB
  have hBlt := heap_lt hB
  have HB := hide hB
  have HN := hide hBne
  have HO := hide hown
  clear hB hBne hown hd
  cases o
  · go_enter Try.func29, Try.ntmps29
    go_wp2
    go_quiet (fail)
    go_wp2_with (at_builtin; refine wpList_append_own _ rfl (.tmp 28) (.tmp 29) 28 rfl base 33 i0 (.int .u64 0) 1 8 Try.underlying28 hi hz0 hz1 hz2 rfl (by decide) _ _ _ rfl (World.ownsRow.alloc (show (w.drewN nq).ownsRow base 33 1 (.slice a n cap) n (zs.map (Value.int .u64)) from HO.out) _) ⟨w.heap.size, 0, none⟩ 1 1 [.int .u64 0] rfl rfl (new_cell w nq _ _) (by intro u hu; simp at hu; subst hu; rfl) (by unfold maxLen; omega) (by omega) (by simp; omega) ?_; intro v' w1 hown1 hgrow1 _; obtain ⟨g', cap', rfl, hbg, cur, hcur⟩ := own_shape hown1; have G := grew HB.out HN.out HO.out hbB c0 c1 f0 f1 hown1 hgrow1; have c0' := G.c0; have c1' := G.c1; have f0' := G.f0; have f1' := G.f1; have hgB := G.ne; have cx' := G.cx; have fx' := G.fx; clear hown1 hgrow1 hcur)
    go_end0
    have E := grew_end G hl hbB hbg (newWord 0 0 false) (.int .i64 (d + 1)) (.slice (some ⟨g', 0, none⟩) (n + 1) cap')
    rw [nw_false] at E
    exact ⟨rfl, g', cap', E.1, E.2.1, by rw [nw_false]; exact E.2.2.1, E.2.2.2⟩
  · go_enter Try.func29, Try.ntmps29
    go_wp2
    go_quiet (fail)
    go_wp2_with (at_builtin; refine wpList_append_own _ rfl (.tmp 28) (.tmp 29) 28 rfl base 33 i0 (.int .u64 0) 1 8 Try.underlying28 hi hz0 hz1 hz2 rfl (by decide) _ _ _ rfl (World.ownsRow.alloc (show (w.drewN nq).ownsRow base 33 1 (.slice a n cap) n (zs.map (Value.int .u64)) from HO.out) _) ⟨w.heap.size, 0, none⟩ 1 1 [.int .u64 0] rfl rfl (new_cell w nq _ _) (by intro u hu; simp at hu; subst hu; rfl) (by unfold maxLen; omega) (by omega) (by simp; omega) ?_; intro v' w1 hown1 hgrow1 _; obtain ⟨g', cap', rfl, hbg, cur, hcur⟩ := own_shape hown1; have G := grew HB.out HN.out HO.out hbB c0 c1 f0 f1 hown1 hgrow1; have c0' := G.c0; have c1' := G.c1; have f0' := G.f0; have f1' := G.f1; have hgB := G.ne; have cx' := G.cx; have fx' := G.fx; clear hown1 hgrow1 hcur)
    go_end0
    have E := grew_end G hl hbB hbg (newWord 0 0 true) (.int .i64 (d + 1)) (.slice (some ⟨g', 0, none⟩) (n + 1) cap')
    rw [nw_true] at E
    exact ⟨rfl, g', cap', E.1, E.2.1, by rw [nw_true]; exact E.2.2.1, E.2.2.2⟩
end Go.Proofs.Qxb6602372a
