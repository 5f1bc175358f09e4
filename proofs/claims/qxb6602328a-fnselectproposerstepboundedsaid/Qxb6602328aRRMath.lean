/-
  Round robin: the states; one step of SelectProposer on them.
-/
import Derived.Test.Qxb6602328aSelKeep
namespace Go.Proofs.Qxb6602328a
open Go.RowKit

/-- the priorities behind s steps, m = s mod n -/
def rrAt (n : Nat) (x : Int) (m i : Nat) : Int := (m : Int) * x - if i < m then (n : Int) * x else 0
def state (n : Nat) (x : Int) (m : Nat) : List Int := (List.range n).map (rrAt n x m)

theorem state_len (n : Nat) (x : Int) (m : Nat) : (state n x m).length = n := by simp [state]
theorem state_at (n : Nat) (x : Int) (m i : Nat) (h : i < n) : (state n x m).getD i 0 = rrAt n x m i := by
  simp [state, List.getD, h]
theorem state_zero (n : Nat) (x : Int) : state n x 0 = List.replicate n 0 := by
  apply ext_getD (state_len n x 0) (by simp)
  intro j hj
  rw [state_at n x 0 j hj]
  simp [rrAt, List.getD, hj]
theorem rep_at (n : Nat) (x : Int) (j : Nat) (h : j < n) : (List.replicate n x).getD j 0 = x := by simp [List.getD, h]
theorem tot_rep (n : Nat) (x : Int) : tot (List.replicate n x) = (n : Int) * x := by
  induction n with
  | zero => simp [tot]
  | succ n ih => rw [List.replicate_succ, tot, ih, Int.natCast_add, Int.add_mul]; simp; omega
theorem tot_rr (n : Nat) (x : Int) (m : Nat) (k : Nat) : tot ((List.range k).map (rrAt n x m)) = (k : Int) * ((m : Int) * x) - ((min k m : Nat) : Int) * ((n : Int) * x) := by
  induction k with
  | zero => simp [tot]
  | succ k ih =>
    rw [List.range_succ, List.map_append, tot_append, ih]
    simp only [List.map_cons, List.map_nil, tot, rrAt]
    have e : ((k + 1 : Nat) : Int) * ((m : Int) * x) = (k : Int) * ((m : Int) * x) + (m : Int) * x := by rw [Int.natCast_add, Int.add_mul]; simp
    rw [e]
    by_cases h : k < m
    · rw [if_pos h, show min (k + 1) m = min k m + 1 by omega]
      have e2 : ((min k m + 1 : Nat) : Int) * ((n : Int) * x) = ((min k m : Nat) : Int) * ((n : Int) * x) + (n : Int) * x := by rw [Int.natCast_add, Int.add_mul]; simp
      rw [e2]; omega
    · rw [if_neg h, show min (k + 1) m = min k m by omega]; omega
theorem tot_state (n : Nat) (x : Int) (m : Nat) (h : m ≤ n) : tot (state n x m) = 0 := by
  unfold state
  rw [tot_rr, show min n m = m by omega]
  have : (n : Int) * ((m : Int) * x) = (m : Int) * ((n : Int) * x) := by rw [← Int.mul_assoc, ← Int.mul_assoc, Int.mul_comm (n : Int) m]
  omega
theorem mul_lt_nat {m n : Nat} {x : Int} (h : m < n) (hx : 1 ≤ x) : 0 ≤ (m : Int) * x ∧ (m : Int) * x + x ≤ (n : Int) * x := by
  constructor
  · exact Int.mul_nonneg (by omega) (by omega)
  · have h2 : ((m + 1 : Nat) : Int) * x ≤ (n : Int) * x := Int.mul_le_mul_of_nonneg_right (by omega) (by omega)
    rw [Int.natCast_add, Int.add_mul] at h2
    simpa using h2
theorem state_bd (n : Nat) (x : Int) (m : Nat) (h : m < n) (hx : 1 ≤ x) : ∀ q ∈ state n x m, (m : Int) * x - (n : Int) * x ≤ q ∧ q ≤ (m : Int) * x := by
  intro q hq
  obtain ⟨i, hi, rfl⟩ := List.mem_map.1 hq
  have h2 := mul_lt_nat h hx
  unfold rrAt
  split <;> omega
theorem ex_min (l : List Int) (h : 1 ≤ l.length) : ∃ m, IsMin l m := by
  induction l with
  | nil => simp at h
  | cons x xs ih =>
    by_cases h2 : 1 ≤ xs.length
    · obtain ⟨m, hm⟩ := ih h2
      by_cases hx : x ≤ m
      · exact ⟨x, by simp, fun q hq => by rcases List.mem_cons.1 hq with rfl | hq; exact Int.le_refl _; have := hm.2 q hq; omega⟩
      · exact ⟨m, by simp [hm.1], fun q hq => by rcases List.mem_cons.1 hq with rfl | hq; omega; exact hm.2 q hq⟩
    · have : xs = [] := List.eq_nil_of_length_eq_zero (by omega)
      subst this
      exact ⟨x, by simp, fun q hq => by simp at hq; omega⟩
theorem ex_max (l : List Int) (h : 1 ≤ l.length) : ∃ m, IsMax l m := by
  induction l with
  | nil => simp at h
  | cons x xs ih =>
    by_cases h2 : 1 ≤ xs.length
    · obtain ⟨m, hm⟩ := ih h2
      by_cases hx : m ≤ x
      · exact ⟨x, by simp, fun q hq => by rcases List.mem_cons.1 hq with rfl | hq; exact Int.le_refl _; have := hm.2 q hq; omega⟩
      · exact ⟨m, by simp [hm.1], fun q hq => by rcases List.mem_cons.1 hq with rfl | hq; omega; exact hm.2 q hq⟩
    · have : xs = [] := List.eq_nil_of_length_eq_zero (by omega)
      subst this
      exact ⟨x, by simp, fun q hq => by simp at hq; omega⟩

theorem bump_state (n : Nat) (x : Int) (m j : Nat) (hj : j < n) : (bump 0 (List.replicate n x) (state n x m)).getD j 0 = rrAt n x m j + x := by
  rw [bump_at (n := n) (by simp) (state_len n x m) j hj, state_at n x m j hj, rep_at n x j hj]; omega
theorem pick_state {n : Nat} {x : Int} {m p : Nat} (h : m < n) (hx : 1 ≤ x) (hp : IsPick (bump 0 (List.replicate n x) (state n x m)) p) : p = m := by
  have hl : (bump 0 (List.replicate n x) (state n x m)).length = n := bump_len (by simp) (state_len n x m)
  obtain ⟨h1, h2, h3⟩ := hp
  rw [hl] at h1 h3
  have hm := h3 m h
  rw [bump_state n x m m h, bump_state n x m p h1] at hm
  have hb := mul_lt_nat h hx
  unfold rrAt at hm
  by_cases hpm : p < m
  · rw [if_pos hpm, if_neg (by omega)] at hm; omega
  · by_cases hmp : m < p
    · have := h2 m hmp
      rw [bump_state n x m m h, bump_state n x m p h1] at this
      unfold rrAt at this
      rw [if_neg (by omega), if_neg (by omega)] at this
      omega
    · omega
theorem next_state (n : Nat) (x : Int) (m : Nat) (h : m < n) :
    (bump 0 (List.replicate n x) (state n x m)).set m ((bump 0 (List.replicate n x) (state n x m)).getD m 0 - (n : Int) * x) = state n x ((m + 1) % n) := by
  have hl : (bump 0 (List.replicate n x) (state n x m)).length = n := bump_len (by simp) (state_len n x m)
  apply ext_getD (n := n) (by simpa using hl) (state_len n x _)
  intro j hj
  rw [getD_set (by omega), state_at n x _ j hj, bump_state n x m m h, bump_state n x m j hj]
  have e : ((m + 1 : Nat) : Int) * x = (m : Int) * x + x := by rw [Int.natCast_add, Int.add_mul]; simp
  unfold rrAt
  by_cases hn : m + 1 < n
  · rw [Nat.mod_eq_of_lt hn, e, if_neg (Nat.lt_irrefl m)]
    by_cases h1 : j = m
    · rw [if_pos h1, if_pos (by omega)]; omega
    · rw [if_neg h1]
      by_cases h2 : j < m
      · rw [if_pos h2, if_pos (by omega)]; omega
      · rw [if_neg h2, if_neg (by omega)]; omega
  · have hn' : m + 1 = n := by omega
    rw [hn', Nat.mod_self]
    rw [hn'] at e
    rw [e, if_neg (Nat.lt_irrefl m), if_neg (Nat.not_lt_zero j)]
    by_cases h1 : j = m
    · rw [if_pos h1]; simp
    · rw [if_neg h1, if_pos (by omega)]; simp; omega

theorem rr_call (base g1 g2 n m : Nat) (x r : Int) (w : World) (hne : g1 ≠ g2) (hm : m < n) (hn : n ≤ 65536) (hx : 1 ≤ x) (hxn : (n : Int) * x ≤ 1152921504606846976) (hr : r = (m : Int))
    (own1 : Row w base g1 n (List.replicate n x)) (own2 : Row w base g2 n (state n x m)) :
    Calls Try.prog 9 #[.slice (some ⟨g1, 0, none⟩) n n, .slice (some ⟨g2, 0, none⟩) n n] w fun e w' => e = .returned (.int .i64 r) ∧ Row w' base g2 n (state n x ((m + 1) % n)) ∧ w.grownBy w' (some g2) := by
  subst hr
  obtain ⟨lo, hlo⟩ := ex_min (state n x m) (by rw [state_len]; omega)
  obtain ⟨hi, hhi⟩ := ex_max (state n x m) (by rw [state_len]; omega)
  have hb := state_bd n x m hm hx
  have h1 := hb lo hlo.1
  have h2 := hb hi hhi.1
  have h3 := mul_lt_nat hm hx
  refine (select_keep base g1 g2 n (List.replicate n x) (state n x m) lo hi ((n : Int) * x) 0 w hne (by omega) hn ?_ (tot_rep n x).symm hxn ?_ own1 own2 hlo hhi (by omega) ?_).mono ?_
  · intro p hp; have := (List.mem_replicate.1 hp).2; omega
  · intro q hq; have := hb q hq; omega
  · rw [tot_state n x m (by omega)]; simp
  · rintro e w' ⟨p, hp, rfl, hrow, hgr⟩
    obtain rfl := pick_state hm hx hp
    rw [next_state n x p hm] at hrow
    exact ⟨rfl, hrow, hgr⟩
end Go.Proofs.Qxb6602328a
