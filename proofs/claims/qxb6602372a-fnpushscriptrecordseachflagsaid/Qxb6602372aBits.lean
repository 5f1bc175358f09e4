/-
  Bits of a word: plain.
-/
import Derived.Test.Qxb6602372aZZPush
import Derived.Laws.BitsAllLaws
namespace Go.Proofs.Qxb6602372a

/-- bit t of x -/
def bitB (x : Int) (t : Nat) : Bool := x / 2 ^ t % 2 == 1

theorem wrap_nat (m : Nat) (h : m < 18446744073709551616) : IntKind.u64.wrap (m : Int) = (m : Int) := by
  have : IntKind.u64.wrap (m : Int) = (m : Int) % 18446744073709551616 := by simp [IntKind.wrap, IntKind.bits, IntKind.signed]
  rw [this]
  omega
theorem wrap_pow (b : Nat) (h : b < 64) : IntKind.u64.wrap (2 ^ b) = ((2 ^ b : Nat) : Int) := by
  have h1 : (2 : Nat) ^ b < 2 ^ 64 := Nat.pow_lt_pow_right (by omega) h
  have e : ((2 : Int) ^ b) = ((2 ^ b : Nat) : Int) := by simp
  rw [e]
  exact wrap_nat _ h1
theorem bitB_nat (x t : Nat) : bitB (x : Int) t = x.testBit t := by
  unfold bitB
  rw [Nat.testBit_eq_decide_div_mod_eq]
  have e : ((x : Int) / 2 ^ t % 2) = ((x / 2 ^ t % 2 : Nat) : Int) := by simp
  rw [e, Bool.eq_iff_iff]
  simp
  omega
theorem nw_nat (x b : Nat) (o : Bool) (hx : x < 18446744073709551616) (hb : b < 64) :
    newWord (x : Int) b o = ((if o then x ||| 2 ^ b else x &&& (18446744073709551615 - 2 ^ b) : Nat) : Int) := by
  have h1 : (2 : Nat) ^ b < 18446744073709551616 := Nat.pow_lt_pow_right (a := 2) (m := b) (n := 64) (by omega) hb
  unfold newWord
  rw [wrap_pow b hb]
  cases o
  · simp only [Bool.false_eq_true, if_false]
    rw [u64_andNot_nat x (2 ^ b) hx h1]
  · simp only [if_true]
    rw [u64_or_nat x (2 ^ b) hx h1]
theorem nw_range (x : Int) (b : Nat) (o : Bool) (h0 : 0 ≤ x) (h1 : x ≤ 18446744073709551615) (hb : b < 64) : 0 ≤ newWord x b o ∧ newWord x b o ≤ 18446744073709551615 := by
  obtain ⟨n, rfl⟩ : ∃ n : Nat, x = n := ⟨x.toNat, by omega⟩
  rw [nw_nat n b o (by omega) hb]
  have h2 : (2 : Nat) ^ b < 2 ^ 64 := Nat.pow_lt_pow_right (by omega) hb
  cases o
  · simp only [Bool.false_eq_true, if_false]
    have := Nat.and_le_left (n := n) (m := 18446744073709551615 - 2 ^ b)
    omega
  · simp only [if_true]
    have := Nat.or_lt_two_pow (x := n) (y := 2 ^ b) (n := 64) (by omega) h2
    omega
theorem nw_bit (x : Int) (b t : Nat) (o : Bool) (h0 : 0 ≤ x) (h1 : x ≤ 18446744073709551615) (hb : b < 64) (ht : t < 64) : bitB (newWord x b o) t = if t = b then o else bitB x t := by
  obtain ⟨n, rfl⟩ : ∃ n : Nat, x = n := ⟨x.toNat, by omega⟩
  rw [nw_nat n b o (by omega) hb, bitB_nat, bitB_nat]
  have h2 : (2 : Nat) ^ b < 2 ^ 64 := Nat.pow_lt_pow_right (by omega) hb
  cases o
  · simp only [Bool.false_eq_true, if_false]
    rw [Nat.testBit_and, show 18446744073709551615 - 2 ^ b = 2 ^ 64 - (2 ^ b + 1) by omega, Nat.testBit_two_pow_sub_succ h2, Nat.testBit_two_pow]
    by_cases h : t = b
    · subst h; simp
    · simp [h, ht]; intro _; exact fun e => h e.symm
  · simp only [if_true]
    rw [Nat.testBit_or, Nat.testBit_two_pow]
    by_cases h : t = b
    · subst h; simp
    · simp [h]; exact fun e => absurd e.symm h
/-- a bit as the walk spells it -/
theorem walk_bit (x : Int) (t : Nat) (h0 : 0 ≤ x) (h1 : x ≤ 18446744073709551615) : (bits BinOp.and IntKind.u64 (x / 2 ^ t) 1 == 1) = bitB x t := by
  have hp : (0 : Int) < 2 ^ t := Int.pow_pos (by omega)
  have h2 : 0 ≤ x / 2 ^ t := Int.ediv_nonneg h0 (by omega)
  have h3 : x / 2 ^ t ≤ x := Int.ediv_le_self _ h0
  rw [and_one_u64 _ h2 (by omega)]
  rfl
theorem bitB_zero (t : Nat) : bitB 0 t = false := by
  unfold bitB; simp
end Go.Proofs.Qxb6602372a
