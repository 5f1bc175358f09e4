/-
  The words that a script of pushes leaves: plain.
-/
import Derived.Test.Qxb6602372aClone
namespace Go.Proofs.Qxb6602372a

/-- the words behind the first k flags -/
def script (B : Nat → Bool) : Nat → List Int
  | 0 => []
  | k + 1 => pushL (script B k) k (B k)

theorem getD_app_low {l m : List Int} {j : Nat} (h : j < l.length) : (l ++ m).getD j 0 = l.getD j 0 := by
  simp [List.getD, List.getElem?_append, h]
theorem getD_app_last {l : List Int} {x : Int} {n : Nat} (h : l.length = n) : (l ++ [x]).getD n 0 = x := by
  subst h; simp [List.getD]

structure Recs (B : Nat → Bool) (k : Nat) (zs : List Int) : Prop where
  len : zs.length = (k + 63) / 64
  rng : ∀ i, i < zs.length → 0 ≤ zs.getD i 0 ∧ zs.getD i 0 ≤ 18446744073709551615
  bit : ∀ j, j < 64 * zs.length → bitB (zs.getD (j / 64) 0) (j % 64) = (decide (j < k) && B j)

theorem recs (B : Nat → Bool) : ∀ k, Recs B k (script B k)
  | 0 => ⟨by simp [script], by simp [script], by simp [script]⟩
  | k + 1 => by
    have ih := recs B k
    have hlen := ih.len
    show Recs B (k + 1) (pushL (script B k) k (B k))
    by_cases h : k / 64 < (script B k).length
    · rw [pushL_set rfl h]
      have hr := ih.rng (k / 64) h
      refine ⟨by simp; omega, fun i hi => ?_, fun j hj => ?_⟩
      · rw [getD_set h]
        split
        · exact nw_range _ _ _ hr.1 hr.2 (by omega)
        · exact ih.rng i (by simpa using hi)
      · have hj' : j < 64 * (script B k).length := by simpa using hj
        rw [getD_set h]
        by_cases e : j / 64 = k / 64
        · rw [if_pos e, nw_bit _ _ _ _ hr.1 hr.2 (by omega) (by omega)]
          by_cases e2 : j = k
          · subst e2; simp
          · rw [if_neg (by omega)]
            have hb := ih.bit j hj'
            rw [e] at hb
            rw [hb]
            have : decide (j < k) = decide (j < k + 1) := by rw [decide_eq_decide]; omega
            rw [this]
        · rw [if_neg e, ih.bit j hj']
          have : decide (j < k) = decide (j < k + 1) := by rw [decide_eq_decide]; omega
          rw [this]
    · have hd : k = 64 * (script B k).length := by omega
      rw [pushL_grow rfl hd]
      refine ⟨by simp; omega, fun i hi => ?_, fun j hj => ?_⟩
      · by_cases e : i < (script B k).length
        · rw [getD_app_low e]; exact ih.rng i e
        · have e' : i = (script B k).length := by simp at hi; omega
          rw [e', getD_app_last rfl]
          exact nw_range 0 0 _ (by omega) (by omega) (by omega)
      · have hj' : j < 64 * ((script B k).length + 1) := by simpa using hj
        by_cases e : j / 64 < (script B k).length
        · rw [getD_app_low e, ih.bit j (by omega)]
          have : decide (j < k) = decide (j < k + 1) := by rw [decide_eq_decide]; omega
          rw [this]
        · have e' : j / 64 = (script B k).length := by omega
          rw [e', getD_app_last rfl, nw_bit 0 0 _ _ (by omega) (by omega) (by omega) (by omega), bitB_zero]
          by_cases e2 : j = k
          · subst e2; rw [if_pos (by omega)]; simp
          · rw [if_neg (by omega)]
            have : decide (j < k + 1) = false := by rw [decide_eq_false_iff_not]; omega
            rw [this]; simp
end Go.Proofs.Qxb6602372a
