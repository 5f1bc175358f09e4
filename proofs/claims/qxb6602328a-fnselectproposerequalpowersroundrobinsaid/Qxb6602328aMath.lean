/-
  Plain mathematics for consensus.SelectProposer: lists and integers; no Go.
-/
namespace Go.Proofs.Qxb6602328a

/-- the sum of a list -/
def tot : List Int → Int
  | [] => 0
  | x :: xs => x + tot xs

theorem tot_append (a b : List Int) : tot (a ++ b) = tot a + tot b := by
  induction a with
  | nil => simp [tot]
  | cons x xs ih => simp [tot, ih]; omega
theorem tot_take_succ (l : List Int) (k : Nat) (h : k < l.length) : tot (l.take (k + 1)) = tot (l.take k) + l.getD k 0 := by
  rw [List.take_succ_eq_append_getElem h, tot_append]
  simp [tot, List.getD, h]
theorem tot_take_all (l : List Int) (k : Nat) (h : l.length ≤ k) : tot (l.take k) = tot l := by rw [List.take_of_length_le h]
theorem tot_nonneg (l : List Int) (h : ∀ p ∈ l, 0 ≤ p) : 0 ≤ tot l := by
  induction l with
  | nil => simp [tot]
  | cons x xs ih =>
    have := h x (by simp)
    have := ih (fun p hp => h p (by simp [hp]))
    simp [tot]; omega
theorem tot_take_le (l : List Int) (k : Nat) (h : ∀ p ∈ l, 0 ≤ p) : 0 ≤ tot (l.take k) ∧ tot (l.take k) ≤ tot l := by
  have h1 := tot_nonneg (l.take k) (fun p hp => h p (List.mem_of_mem_take hp))
  have h2 := tot_nonneg (l.drop k) (fun p hp => h p (List.mem_of_mem_drop hp))
  have h3 := tot_append (l.take k) (l.drop k)
  rw [List.take_append_drop] at h3
  omega
theorem tot_ge_len (l : List Int) (h : ∀ p ∈ l, 1 ≤ p) : (l.length : Int) ≤ tot l := by
  induction l with
  | nil => simp [tot]
  | cons x xs ih =>
    have := h x (by simp)
    have := ih (fun p hp => h p (by simp [hp]))
    simp [tot]; omega
theorem getD_mem {l : List Int} {j : Nat} (h : j < l.length) : l.getD j 0 ∈ l := by
  have e : l.getD j 0 = l[j] := by simp [List.getD, h]
  rw [e]; exact List.getElem_mem _
theorem getD_map {f : Int → Int} {l : List Int} {j : Nat} (h : j < l.length) : (l.map f).getD j 0 = f (l.getD j 0) := by
  simp [List.getD, h]

/-- every element stays within M: so does every sum of the first quotients by n -/
theorem tdiv_le (q n M : Int) (hn : 1 ≤ n) (h1 : -M ≤ q) (h2 : q ≤ M) : -M ≤ q.tdiv n * n ∧ q.tdiv n * n ≤ M := by
  have e := Int.mul_tdiv_add_tmod q n
  rcases Int.le_total 0 q with h | h
  · have := Int.tmod_nonneg n h
    have h3 : 0 ≤ q.tdiv n := Int.tdiv_nonneg h (by omega)
    have h4 : 0 ≤ q.tdiv n * n := Int.mul_nonneg h3 (by omega)
    rw [Int.mul_comm] at e
    omega
  · have h0 : 0 ≤ -q := by omega
    have h3 : 0 ≤ (-q).tdiv n := Int.tdiv_nonneg h0 (by omega)
    have h4 : 0 ≤ (-q).tdiv n * n := Int.mul_nonneg h3 (by omega)
    have e' := Int.mul_tdiv_add_tmod (-q) n
    have := Int.tmod_nonneg n h0
    rw [Int.mul_comm] at e'
    rw [Int.neg_tdiv] at e' h4
    have : -q.tdiv n * n = - (q.tdiv n * n) := Int.neg_mul _ _
    omega
theorem tdiv_bd (q n M : Int) (hn : 1 ≤ n) (h1 : -M ≤ q) (h2 : q ≤ M) : -M ≤ q.tdiv n ∧ q.tdiv n ≤ M := by
  have h := tdiv_le q n M hn h1 h2
  have hM : 0 ≤ M := by omega
  constructor
  · apply Int.not_lt.1
    intro hh
    have : q.tdiv n * n ≤ q.tdiv n * 1 := Int.mul_le_mul_of_nonpos_left (by omega) (by omega)
    omega
  · apply Int.not_lt.1
    intro hh
    have : q.tdiv n * 1 ≤ q.tdiv n * n := Int.mul_le_mul_of_nonneg_left hn (by omega)
    omega
theorem tmod_bd (q n : Int) (hn : 1 ≤ n) : -n < q.tmod n ∧ q.tmod n < n := by
  rcases Int.le_total 0 q with h | h
  · exact ⟨by have := Int.tmod_nonneg n h; omega, Int.tmod_lt_of_pos q (by omega)⟩
  · have h0 : 0 ≤ -q := by omega
    have h1 := Int.tmod_nonneg n h0
    have h2 := Int.tmod_lt_of_pos (-q) (b := n) (by omega)
    rw [Int.neg_tmod] at h1 h2
    omega
theorem tot_tdiv_mul (l : List Int) (n M : Int) (hn : 1 ≤ n) (h : ∀ q ∈ l, -M ≤ q ∧ q ≤ M) :
    -(M * l.length) ≤ tot (l.map (·.tdiv n)) * n ∧ tot (l.map (·.tdiv n)) * n ≤ M * l.length := by
  induction l with
  | nil => simp [tot]
  | cons x xs ih =>
    have hx := h x (by simp)
    have h1 := tdiv_le x n M hn hx.1 hx.2
    have h2 := ih (fun q hq => h q (by simp [hq]))
    simp only [List.map_cons, tot, List.length_cons, Int.add_mul]
    have e : M * ((xs.length + 1 : Nat) : Int) = M * xs.length + M := by
      rw [Int.natCast_add, Int.mul_add]; simp
    omega
theorem tot_tdiv_bd (l : List Int) (n M : Int) (hn : 1 ≤ n) (hl : (l.length : Int) ≤ n) (hM : 0 ≤ M) (h : ∀ q ∈ l, -M ≤ q ∧ q ≤ M) :
    -M ≤ tot (l.map (·.tdiv n)) ∧ tot (l.map (·.tdiv n)) ≤ M := by
  have h1 := tot_tdiv_mul l n M hn h
  have h2 : M * (l.length : Int) ≤ M * n := Int.mul_le_mul_of_nonneg_left hl hM
  constructor
  · apply Int.not_lt.1
    intro hh
    have : tot (l.map (·.tdiv n)) * n ≤ (-M - 1) * n := Int.mul_le_mul_of_nonneg_right (by omega) (by omega)
    have e : (-M - 1) * n = -(M * n) - n := by rw [Int.sub_mul, Int.neg_mul]; simp
    omega
  · apply Int.not_lt.1
    intro hh
    have : (M + 1) * n ≤ tot (l.map (·.tdiv n)) * n := Int.mul_le_mul_of_nonneg_right (by omega) (by omega)
    have e : (M + 1) * n = M * n + n := by rw [Int.add_mul]; simp
    omega
theorem tot_tmod_bd (l : List Int) (n : Int) (hn : 1 ≤ n) : -(n * l.length) ≤ tot (l.map (·.tmod n)) ∧ tot (l.map (·.tmod n)) ≤ n * l.length := by
  induction l with
  | nil => simp [tot]
  | cons x xs ih =>
    have hx := tmod_bd x n hn
    simp only [List.map_cons, tot, List.length_cons]
    have e : n * ((xs.length + 1 : Nat) : Int) = n * xs.length + n := by
      rw [Int.natCast_add, Int.mul_add]; simp
    omega
theorem tot_split (l : List Int) (n : Int) : tot l = n * tot (l.map (·.tdiv n)) + tot (l.map (·.tmod n)) := by
  induction l with
  | nil => simp [tot]
  | cons x xs ih =>
    simp only [List.map_cons, tot, Int.mul_add]
    have := Int.mul_tdiv_add_tmod x n
    have e : n * x.tdiv n = x.tdiv n * n := Int.mul_comm _ _
    omega
/-- the average, as the Go text puts it together -/
theorem avg_eq (l : List Int) (n : Int) (hn : 1 ≤ n) : tot (l.map (·.tdiv n)) + tot (l.map (·.tmod n)) / n = tot l / n := by
  rw [tot_split l n, Int.add_comm (n * _) _, Int.add_mul_ediv_left _ _ (by omega)]
  omega

theorem floor_pos (a b : Int) (hb : 1 ≤ b) (h : 0 ≤ a.tmod b) : a.tdiv b = a / b := by
  have h2 := tmod_bd a b hb
  have e := Int.tmod_add_mul_tdiv a b
  have : a / b = (a.tmod b + b * a.tdiv b) / b := by rw [e]
  rw [this, Int.add_mul_ediv_left _ _ (by omega), Int.ediv_eq_zero_of_lt h h2.2]
  omega
theorem floor_neg (a b : Int) (hb : 1 ≤ b) (h : a.tmod b < 0) : a.tdiv b - 1 = a / b := by
  have h2 := tmod_bd a b hb
  have e := Int.tmod_add_mul_tdiv a b
  have h3 : a / b = (a.tmod b + b * a.tdiv b) / b := by rw [e]
  have h4 := Int.add_mul_ediv_left (a.tmod b) 1 (show b ≠ 0 by omega)
  rw [Int.ediv_eq_zero_of_lt (by omega) (by omega)] at h4
  rw [h3, Int.add_mul_ediv_left _ _ (by omega)]
  omega

def IsMin (l : List Int) (m : Int) : Prop := m ∈ l ∧ ∀ q ∈ l, m ≤ q
def IsMax (l : List Int) (m : Int) : Prop := m ∈ l ∧ ∀ q ∈ l, q ≤ m
theorem take_snoc (l : List Int) (k : Nat) (h : k < l.length) : l.take (k + 1) = l.take k ++ [l.getD k 0] := by
  rw [List.take_succ_eq_append_getElem h]; simp [List.getD, h]
theorem take_one (l : List Int) (h : 1 ≤ l.length) : l.take 1 = [l.getD 0 0] := by
  have := take_snoc l 0 (by omega)
  simpa using this
theorem isMin_step {l : List Int} {z y : Int} (h : IsMin l z) : IsMin (l ++ [y]) (if y < z then y else z) := by
  obtain ⟨h1, h2⟩ := h
  split
  · refine ⟨by simp, fun q hq => ?_⟩
    rcases List.mem_append.1 hq with h | h
    · have := h2 q h; omega
    · simp at h; omega
  · refine ⟨by simp [h1], fun q hq => ?_⟩
    rcases List.mem_append.1 hq with h | h
    · exact h2 q h
    · simp at h; omega
theorem isMax_step {l : List Int} {z y : Int} (h : IsMax l z) : IsMax (l ++ [y]) (if z < y then y else z) := by
  obtain ⟨h1, h2⟩ := h
  split
  · refine ⟨by simp, fun q hq => ?_⟩
    rcases List.mem_append.1 hq with h | h
    · have := h2 q h; omega
    · simp at h; omega
  · refine ⟨by simp [h1], fun q hq => ?_⟩
    rcases List.mem_append.1 hq with h | h
    · exact h2 q h
    · simp at h; omega
theorem tmod_small (l : List Int) (n : Nat) (h1 : 1 ≤ n) (hn : n ≤ 65536) (hl : l.length ≤ n) : -4294967296 ≤ tot (l.map (·.tmod (n : Int))) ∧ tot (l.map (·.tmod (n : Int))) ≤ 4294967296 := by
  have h := tot_tmod_bd l n (by omega)
  have h2 : (n : Int) * (l.length : Int) ≤ 65536 * 65536 := Int.mul_le_mul (by omega) (by omega) (by omega) (by omega)
  omega
theorem ediv_bd (y : Int) (n : Nat) (h1 : 1 ≤ n) (h2 : -4294967296 ≤ y) (h3 : y ≤ 4294967296) : -4294967296 ≤ y / (n : Int) ∧ y / (n : Int) ≤ 4294967296 := by
  have hn : (0 : Int) < n := by omega
  constructor
  · rw [Int.le_ediv_iff_mul_le hn]
    have : (-4294967296 : Int) * n ≤ -4294967296 * 1 := Int.mul_le_mul_of_nonpos_left (by omega) (by omega)
    omega
  · have := Int.ediv_le_ediv hn h3
    have h4 : (4294967296 : Int) / n ≤ 4294967296 := Int.ediv_le_self _ (by omega)
    omega
theorem tot_map_take (l : List Int) (f : Int → Int) (k : Nat) (h : k < l.length) : tot ((l.take (k + 1)).map f) = tot ((l.take k).map f) + f (l.getD k 0) := by
  rw [take_snoc l k h, List.map_append, tot_append]
  simp [tot]
theorem elem_le_tot (l : List Int) (h : ∀ p ∈ l, 0 ≤ p) : ∀ x ∈ l, x ≤ tot l := by
  induction l with
  | nil => intro x hx; simp at hx
  | cons y ys ih =>
    intro x hx
    have h0 := h y (by simp)
    have h1 := tot_nonneg ys (fun p hp => h p (by simp [hp]))
    rcases List.mem_cons.1 hx with rfl | hx
    · simp [tot]; omega
    · have := ih (fun p hp => h p (by simp [hp])) x hx
      simp [tot]; omega
end Go.Proofs.Qxb6602328a
