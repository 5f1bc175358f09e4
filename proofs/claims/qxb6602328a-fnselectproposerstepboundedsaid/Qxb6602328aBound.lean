/-
  The plain law of one step of SelectProposer: bounds, the pick, the sum. No walk.
-/
import Derived.Test.Qxb6602328aRRMath
namespace Go.Proofs.Qxb6602328a

theorem getElem_getD {l : List Int} {j : Nat} (h : j < l.length) : l[j] = l.getD j 0 := by simp [List.getD, h]

theorem tot_bump (A : Int) : ∀ (ps qs : List Int), ps.length = qs.length → tot (bump A ps qs) = tot qs + tot ps - (qs.length : Int) * A
  | [], [], _ => by simp [bump, tot]
  | p :: ps, q :: qs, h => by
    have ih := tot_bump A ps qs (by simpa using h)
    unfold bump at ih ⊢
    simp only [List.zipWith_cons_cons, tot, List.length_cons, ih]
    have e : ((qs.length + 1 : Nat) : Int) * A = (qs.length : Int) * A + A := by rw [Int.natCast_add, Int.add_mul]; simp
    rw [e]; omega
  | [], _ :: _, h => by simp at h
  | _ :: _, [], h => by simp at h
theorem tot_set : ∀ (l : List Int) (k : Nat) (v : Int), k < l.length → tot (l.set k v) = tot l - l.getD k 0 + v
  | [], _, _, h => by simp at h
  | x :: xs, 0, v, _ => by simp [tot]; omega
  | x :: xs, k + 1, v, h => by
    have ih := tot_set xs k v (by simpa using h)
    rw [List.set_cons_succ, tot, ih]
    simp [tot]; omega
theorem tot_ge (l : List Int) (lo : Int) (h : ∀ q ∈ l, lo ≤ q) : (l.length : Int) * lo ≤ tot l := by
  induction l with
  | nil => simp [tot]
  | cons x xs ih =>
    have h1 := h x (by simp)
    have h2 := ih (fun q hq => h q (by simp [hq]))
    have e : ((xs.length + 1 : Nat) : Int) * lo = (xs.length : Int) * lo + lo := by rw [Int.natCast_add, Int.add_mul]; simp
    simp only [tot, List.length_cons, e]; omega
theorem tot_le (l : List Int) (hi : Int) (h : ∀ q ∈ l, q ≤ hi) : tot l ≤ (l.length : Int) * hi := by
  induction l with
  | nil => simp [tot]
  | cons x xs ih =>
    have h1 := h x (by simp)
    have h2 := ih (fun q hq => h q (by simp [hq]))
    have e : ((xs.length + 1 : Nat) : Int) * hi = (xs.length : Int) * hi + hi := by rw [Int.natCast_add, Int.add_mul]; simp
    simp only [tot, List.length_cons, e]; omega
/-- the average lies between the least and the greatest -/
theorem avg_between (l : List Int) (lo hi : Int) (n : Nat) (hl : l.length = n) (hn : 1 ≤ n) (h : ∀ q ∈ l, lo ≤ q ∧ q ≤ hi) : lo ≤ tot l / (n : Int) ∧ tot l / (n : Int) ≤ hi := by
  have h1 := tot_ge l lo (fun q hq => (h q hq).1)
  have h2 := tot_le l hi (fun q hq => (h q hq).2)
  rw [hl] at h1 h2
  constructor
  · rw [Int.le_ediv_iff_mul_le (by omega), Int.mul_comm]; exact h1
  · have : tot l / (n : Int) < hi + 1 := by
      rw [Int.ediv_lt_iff_lt_mul (by omega), Int.add_mul, Int.mul_comm hi]; omega
    omega
/-- behind the rescaling no two lie further apart than 2T -/
theorem scaled_close (x y lo hi T D : Int) (hx : lo ≤ x ∧ x ≤ hi) (hy : lo ≤ y ∧ y ≤ hi) (hT : 1 ≤ T) (hS : 2 * T < hi - lo) (hD : D = (hi - lo + 2 * T - 1) / (2 * T)) :
    x.tdiv D - y.tdiv D ≤ 2 * T := by
  have hDm : hi - lo ≤ D * (2 * T) := by
    have := Int.lt_ediv_add_one_mul_self (hi - lo + 2 * T - 1) (show (0 : Int) < 2 * T by omega)
    rw [← hD, Int.add_mul] at this
    omega
  have hD1 : 1 ≤ D := by rw [hD, Int.le_ediv_iff_mul_le (by omega)]; omega
  apply Int.not_lt.1
  intro hc
  have ex := Int.mul_tdiv_add_tmod x D
  have ey := Int.mul_tdiv_add_tmod y D
  have bx := tmod_bd x D hD1
  have byy := tmod_bd y D hD1
  have hm : D * (2 * T + 1) ≤ D * (x.tdiv D - y.tdiv D) := Int.mul_le_mul_of_nonneg_left (by omega) (by omega)
  rw [Int.mul_sub, Int.mul_add, Int.mul_one] at hm
  have hr : x.tmod D - y.tmod D ≤ -D := by omega
  rcases Int.le_total 0 x with h | h
  · have := Int.tmod_nonneg D h
    rcases Int.le_total 0 y with h' | h'
    · omega
    · have h2 := Int.tmod_nonneg D (show 0 ≤ -y by omega)
      rw [Int.neg_tmod] at h2
      omega
  · rcases Int.le_total 0 y with h' | h'
    · have h2 : 0 ≤ y.tdiv D := Int.tdiv_nonneg h' (by omega)
      have h3 : 0 ≤ (-x).tdiv D := Int.tdiv_nonneg (by omega) (by omega)
      rw [Int.neg_tdiv] at h3
      omega
    · have h2 := Int.tmod_nonneg D (show 0 ≤ -y by omega)
      rw [Int.neg_tmod] at h2
      omega
theorem scaled_spread {T : Int} {qs q1 : List Int} (hT : 1 ≤ T) (h : Scaled T qs q1) : ∀ x ∈ q1, ∀ y ∈ q1, x - y ≤ 2 * T := by
  obtain ⟨lo, hi, hlo, hhi, h | h⟩ := h
  · obtain ⟨h1, rfl⟩ := h
    intro x hx y hy
    have := hlo.2 y hy
    have := hhi.2 x hx
    omega
  · obtain ⟨h1, rfl⟩ := h
    intro x hx y hy
    obtain ⟨x', hx', rfl⟩ := List.mem_map.1 hx
    obtain ⟨y', hy', rfl⟩ := List.mem_map.1 hy
    exact scaled_close x' y' lo hi T _ ⟨hlo.2 _ hx', hhi.2 _ hx'⟩ ⟨hlo.2 _ hy', hhi.2 _ hy'⟩ hT h1 rfl
theorem scaled_len {T : Int} {qs q1 : List Int} (h : Scaled T qs q1) : q1.length = qs.length := by
  obtain ⟨lo, hi, hlo, hhi, h | h⟩ := h
  · rw [h.2]
  · rw [h.2, List.length_map]

/-- what one step leaves -/
structure Step (n : Nat) (T : Int) (R : List Int) (p : Nat) : Prop where
  len : R.length = n
  lt : p < n
  within : ∀ q ∈ R, 1 - 2 * T ≤ q ∧ q ≤ 3 * T
  before : ∀ j, j < p → R.getD j 0 < R.getD p 0 + T
  all : ∀ j, j < n → R.getD j 0 ≤ R.getD p 0 + T
  low : 0 ≤ tot R
  high : tot R < n

theorem step_law {n : Nat} {T A : Int} {ps qs q1 : List Int} {p : Nat} (hn : 1 ≤ n) (hp : ps.length = n) (hq : qs.length = n) (hps : ∀ x ∈ ps, 1 ≤ x) (hT : T = tot ps)
    (hsc : Scaled T qs q1) (hA : A = tot q1 / n) (hpick : IsPick (bump A ps q1) p) : Step n T ((bump A ps q1).set p ((bump A ps q1).getD p 0 - T)) p := by
  have hT1 : 1 ≤ T := by have := tot_ge_len ps hps; omega
  have hl1 : q1.length = n := by rw [scaled_len hsc, hq]
  have hBl : (bump A ps q1).length = n := bump_len hp hl1
  have hspr := scaled_spread hT1 hsc
  obtain ⟨lo, hlo⟩ := ex_min q1 (by omega)
  obtain ⟨hi, hhi⟩ := ex_max q1 (by omega)
  have hdiff := hspr hi hhi.1 lo hlo.1
  have hav := avg_between q1 lo hi n hl1 hn (fun q hq' => ⟨hlo.2 q hq', hhi.2 q hq'⟩)
  rw [← hA] at hav
  have hB : ∀ j, j < n → 1 - 2 * T ≤ (bump A ps q1).getD j 0 ∧ (bump A ps q1).getD j 0 ≤ 3 * T := by
    intro j hj
    rw [bump_at hp hl1 j hj]
    have h1 := hlo.2 _ (getD_mem (show j < q1.length by omega))
    have h2 := hhi.2 _ (getD_mem (show j < q1.length by omega))
    have h3 := hps _ (getD_mem (show j < ps.length by omega))
    have h4 := elem_le_tot ps (fun x hx => by have := hps x hx; omega) _ (getD_mem (show j < ps.length by omega))
    omega
  obtain ⟨hp1, hp2, hp3⟩ := hpick
  rw [hBl] at hp1 hp3
  have htB := tot_bump A ps q1 (by omega)
  rw [hl1, ← hT] at htB
  have hem := Int.emod_add_mul_ediv (tot q1) n
  rw [← hA] at hem
  have he1 := Int.emod_nonneg (tot q1) (show (n : Int) ≠ 0 by omega)
  have he2 := Int.emod_lt_of_pos (tot q1) (show (0 : Int) < n by omega)
  have hBp : 1 ≤ (bump A ps q1).getD p 0 := by
    have h1 := tot_le (bump A ps q1) ((bump A ps q1).getD p 0) (fun q hq' => by
      obtain ⟨j, hj, rfl⟩ := List.mem_iff_getElem.1 hq'
      have := hp3 j (by omega)
      simpa [List.getD, hj] using this)
    rw [hBl] at h1
    apply Int.not_lt.1
    intro hc
    have h2 : (n : Int) * (bump A ps q1).getD p 0 ≤ (n : Int) * 0 := Int.mul_le_mul_of_nonneg_left (by omega) (by omega)
    rw [Int.mul_zero] at h2
    omega
  have hRp : ((bump A ps q1).set p ((bump A ps q1).getD p 0 - T)).getD p 0 = (bump A ps q1).getD p 0 - T := by rw [getD_set (by omega), if_pos rfl]
  have hRl : ((bump A ps q1).set p ((bump A ps q1).getD p 0 - T)).length = n := by simpa using hBl
  refine ⟨hRl, hp1, ?_, ?_, ?_, ?_, ?_⟩
  · intro q hq'
    obtain ⟨j, hj, rfl⟩ := List.mem_iff_getElem.1 hq'
    rw [getElem_getD hj, getD_set (by omega)]
    have := hB p hp1
    have := hB j (by omega)
    split <;> omega
  · intro j hj
    rw [hRp, getD_set (by omega), if_neg (by omega)]
    have := hp2 j hj
    omega
  · intro j hj
    rw [hRp, getD_set (by omega)]
    have := hp3 j hj
    split <;> omega
  · rw [tot_set _ _ _ (by omega), htB]; omega
  · rw [tot_set _ _ _ (by omega), htB]; omega
end Go.Proofs.Qxb6602328a
