/-
  SelectProposer: the lists that it makes; no walk.
-/
import Derived.Test.Qxb6602328aMinMax
import Derived.OpenShut
import Derived.WalkSmall
import Derived.BigQuiet
import Derived.Deep.QuietTactic
namespace Go.Proofs.Qxb6602328a
open Go.RowKit

theorem Try.info2 : (Try.prog.info? 2).map (fun i => (i.zero, i.size, i.bytes)) = some (some (.int .i64 0), 1, 8) := by kernel_rfl

/-- a slice of its own row: block g, n numbers zs -/
def Row (w : World) (base g n : Nat) (zs : List Int) : Prop := w.ownsRow base 2 1 (.slice (some ⟨g, 0, none⟩) n n) n (zs.map (Value.int .i64))

theorem Row.len {w : World} {base g n : Nat} {zs : List Int} (h : Row w base g n zs) : zs.length = n := by simpa using h.1
theorem Row.cell {w : World} {base g n : Nat} {zs : List Int} (h : Row w base g n zs) (j : Nat) (hj : j < n) : w.cell? ⟨g, j, none⟩ = some (.int .i64 (zs.getD j 0)) := by
  have hl := h.len
  unfold Row at h
  rw [h.cellAt j (by omega)]
  simp [List.getElem?_eq_getElem (show j < zs.length by omega), List.getD]
theorem Row.frozen {w : World} {base g n : Nat} {zs : List Int} (h : Row w base g n zs) (j : Nat) : w.frozen? ⟨g, j, none⟩ = false := World.ownsRow.frozenAt h j
theorem Row.store {w : World} {base g n : Nat} {zs : List Int} (h : Row w base g n zs) (j : Nat) (v : Int) : Row (w.setCell ⟨g, j, none⟩ (.int .i64 v)) base g n (zs.set j v) := by
  have := (World.ownsRow.stored h j (.int .i64 v)).1
  unfold Row
  rw [List.map_set]
  exact this
theorem Row.drewN {w : World} {base g n : Nat} {zs : List Int} (h : Row w base g n zs) (q : Nat) : Row (w.drewN q) base g n zs := h
theorem Row.kept {w w' : World} {base g g' n : Nat} {zs : List Int} (h : Row w base g n zs) (hg : w.grownBy w' (some g')) (hne : g ≠ g') : Row w' base g n zs :=
  World.ownsRow.kept h hg (.inr (by simp [Value.ownBlock]; exact hne))
theorem grown_refl (w : World) (g : Nat) : w.grownBy w (some g) := ⟨rfl, rfl, rfl, Nat.le_refl _, fun _ _ _ => rfl⟩
theorem grown_set {w w' : World} {g : Nat} (h : w.grownBy w' (some g)) (j : Nat) (v : Value) : w.grownBy (w'.setCell ⟨g, j, none⟩ v) (some g) :=
  ⟨h.os, h.tape, h.output, by have := h.size; simpa using this, fun k hk hne => by
    rw [Below.heap_setCell w' ⟨g, j, none⟩ v k (fun e => hne (by simp [e]))]; exact h.block k hk hne⟩
theorem grown_drewN {w w' : World} {g : Nat} (h : w.grownBy w' (some g)) (q : Nat) : w.grownBy (w'.drewN q) (some g) := ⟨h.os, h.tape, h.output, h.size, h.block⟩
theorem grown_drew {w w' : World} {g : Nat} (h : w.grownBy w' (some g)) : w.grownBy w'.drew (some g) := ⟨h.os, h.tape, h.output, h.size, h.block⟩
theorem grown_trans {w w1 w2 : World} {g : Nat} (h : w.grownBy w1 (some g)) (h2 : w1.grownBy w2 (some g)) : w.grownBy w2 (some g) :=
  ⟨h2.os.trans h.os, h2.tape.trans h.tape, h2.output.trans h.output, Nat.le_trans h.size h2.size, fun k hk hne => (h2.block k (Nat.lt_of_lt_of_le hk h.size) hne).trans (h.block k hk hne)⟩

/-- the priorities, each raised by its power less the average A -/
def bump (A : Int) (ps qs : List Int) : List Int := List.zipWith (fun q p => q + (p - A)) qs ps
theorem bump_len {A : Int} {ps qs : List Int} {n : Nat} (hp : ps.length = n) (hq : qs.length = n) : (bump A ps qs).length = n := by
  unfold bump; simp [hp, hq]
theorem bump_at {A : Int} {ps qs : List Int} {n : Nat} (hp : ps.length = n) (hq : qs.length = n) (j : Nat) (hj : j < n) : (bump A ps qs).getD j 0 = qs.getD j 0 + (ps.getD j 0 - A) := by
  unfold bump
  simp [List.getD, List.getElem?_zipWith, List.getElem?_eq_getElem (show j < qs.length by omega), List.getElem?_eq_getElem (show j < ps.length by omega)]
/-- p is the first of the greatest -/
def IsPick (l : List Int) (p : Nat) : Prop := p < l.length ∧ (∀ j, j < p → l.getD j 0 < l.getD p 0) ∧ ∀ j, j < l.length → l.getD j 0 ≤ l.getD p 0
/-- the priorities behind the rescaling -/
def Scaled (T : Int) (qs q1 : List Int) : Prop := ∃ lo hi, IsMin qs lo ∧ IsMax qs hi ∧ ((hi - lo ≤ 2 * T ∧ q1 = qs) ∨ (2 * T < hi - lo ∧ q1 = qs.map (·.tdiv ((hi - lo + 2 * T - 1) / (2 * T)))))

theorem ext_getD {l m : List Int} {n : Nat} (hl : l.length = n) (hm : m.length = n) (h : ∀ j, j < n → l.getD j 0 = m.getD j 0) : l = m := by
  apply List.ext_getElem (by omega)
  intro j h1 h2
  have := h j (by omega)
  simpa [List.getD, h1, h2] using this
theorem getD_set {l : List Int} {k j : Nat} {v : Int} (hk : k < l.length) : (l.set k v).getD j 0 = if j = k then v else l.getD j 0 := by
  by_cases h : j = k
  · subst h; simp [List.getD, hk]
  · rw [if_neg h]; simp [List.getD, List.getElem?_set_ne (show k ≠ j from fun e => h e.symm)]

theorem sel_step {w wr : World} {base g2 n k q : Nat} {B Q xs : List Int} {v : Int} (hk : k < n) (hv : v = B.getD k 0) (hlow : ∀ j, j < k → xs.getD j 0 = B.getD j 0) (hhigh : ∀ j, k ≤ j → j < n → xs.getD j 0 = Q.getD j 0)
    (hrow : Row wr base g2 n xs) (hgr : w.grownBy wr (some g2)) :
    (∀ j, j < k + 1 → (xs.set k v).getD j 0 = B.getD j 0) ∧ (∀ j, k + 1 ≤ j → j < n → (xs.set k v).getD j 0 = Q.getD j 0) ∧
    Row ((wr.setCell ⟨g2, k, none⟩ (.int .i64 v)).drewN q) base g2 n (xs.set k v) ∧ w.grownBy ((wr.setCell ⟨g2, k, none⟩ (.int .i64 v)).drewN q) (some g2) := by
  have hl := hrow.len
  refine ⟨fun j hj => ?_, fun j h1 h2 => ?_, (hrow.store k v).drewN q, grown_drewN (grown_set hgr k _) q⟩
  · rw [getD_set (by omega)]
    by_cases h : j = k
    · rw [if_pos h, h, hv]
    · rw [if_neg h]; exact hlow j (by omega)
  · rw [getD_set (by omega), if_neg (by omega)]
    exact hhigh j (by omega) h2
theorem pick_new {B : List Int} {k p : Nat} (hall : ∀ j, j < k → B.getD j 0 ≤ B.getD p 0) (h : B.getD p 0 < B.getD k 0) :
    (∀ j, j < k → B.getD j 0 < B.getD k 0) ∧ ∀ j, j < k + 1 → B.getD j 0 ≤ B.getD k 0 := by
  refine ⟨fun j hj => by have := hall j hj; omega, fun j hj => ?_⟩
  by_cases e : j = k
  · subst e; omega
  · have := hall j (by omega); omega
theorem pick_old {B : List Int} {k p : Nat} (hall : ∀ j, j < k → B.getD j 0 ≤ B.getD p 0) (h : B.getD k 0 ≤ B.getD p 0) :
    ∀ j, j < k + 1 → B.getD j 0 ≤ B.getD p 0 := by
  intro j hj
  by_cases e : j = k
  · subst e; omega
  · have := hall j (by omega); omega
theorem made_row {w : World} {base g n : Nat} (h : w.ownsRow base 2 1 (.slice (some ⟨g, 0, none⟩) n n) n (madeCells (Value.int .i64 0).cells (n * 1)).toList) : Row w base g n (List.replicate n 0) := by
  unfold Row
  have e : (madeCells (Value.int .i64 0).cells (n * 1)).toList = (List.replicate n (0 : Int)).map (Value.int .i64) := by
    rw [Nat.mul_one]
    show (madeCells #[Value.int .i64 0] n).toList = _
    rw [toList_madeCells_one, List.map_replicate]
  rw [← e]; exact h
end Go.Proofs.Qxb6602328a
