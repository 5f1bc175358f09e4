/-
  What a slice of bytes that came in is; a loop that copies.
-/
import Derived.Test.Qxb6601962aUnpad
import Derived.OpenShut
namespace Go.Proofs.Qxb6601962a
open Go.RowKit

def IsRow (k : IntKind) (w : World) (a : Option Addr) (len cap : Nat) (zs : List Int) : Prop :=
  (a = none ∧ len = 0 ∧ cap = 0 ∧ zs = []) ∨
  ∃ x, a = some x ∧ len ≤ cap ∧ cap ≤ maxLen ∧ zs.length = cap ∧ (∀ i, i < zs.length → w.cell? (x.add i) = some (.int k (zs.getD i 0))) ∧ ∀ n ∈ zs, (Lit.int k n).wf = true

/-- the input, opened: numbers zs, cells at ⟨b, off + j⟩, each a byte -/
theorem IsRow.bytes {w : World} {x : Addr} {len cap : Nat} {zs : List Int} (hl : len ≤ cap) (hz : zs.length = cap) (h1 : 1 ≤ len)
    (hc : ∀ i, i < zs.length → w.cell? (x.add i) = some (.int .u8 (zs.getD i 0))) (hw : ∀ n ∈ zs, (Lit.int .u8 n).wf = true) :
    ∃ (b off : Nat) (ys : List Int), x = ⟨b, off, none⟩ ∧ ys.length = len ∧ b < w.heap.size ∧ (∀ j, j < len → w.cell? ⟨b, off + j, none⟩ = some (.int .u8 (ys.getD j 0))) ∧ ∀ z ∈ ys, 0 ≤ z ∧ z ≤ 255 := by
  obtain ⟨b, off, spot⟩ := x
  have hspot : spot = none := by simpa [Addr.add] using World.cell?_spot (hc 0 (by omega))
  subst hspot
  have hc' : ∀ j, j < zs.length → w.cell? ⟨b, off + j, none⟩ = some (.int .u8 (zs.getD j 0)) := fun j hj => by have := hc j hj; rwa [Addr.add_lit] at this
  refine ⟨b, off, zs.take len, rfl, by simp; omega, ?_, fun j hj => ?_, fun z hz' => ?_⟩
  · have h := hc' 0 (by omega)
    unfold World.cell? at h
    by_cases hb : b < w.heap.size
    · exact hb
    · simp [Array.getElem?_eq_none (show w.heap.size ≤ b by omega)] at h
  · rw [hc' j (by omega)]; simp [hj]
  · have := hw z (List.mem_of_mem_take hz')
    have := bounds_u8 this
    omega

/-- 'make([]byte, n)': some n cells are owned -/
theorem made_length {z : Value} {n : Nat} : (madeCells z.cells (n * 1)).toList.length = n := by
  simp [size_madeCells]
/-- one round of a loop that copies -/
theorem copy_step {xs : List Value} {f : Nat → Value} {m n : Nat} (hl : xs.length = n) (hm : m < n) (h : ∀ j, j < m → xs[j]? = some (f j)) :
    ∀ j, j < m + 1 → (xs.set m (f m))[j]? = some (f j) := by
  intro j hj
  by_cases e : j = m
  · subst e; simp [hl, hm]
  · rw [List.getElem?_set_ne (by omega)]; exact h j (by omega)
/-- behind the loop: the numbers themselves -/
theorem copy_done {xs : List Value} {ys : List Int} {n : Nat} {k : IntKind} (hl : xs.length = n) (hy : ys.length = n) (h : ∀ j, j < n → xs[j]? = some (.int k (ys.getD j 0))) : xs = ys.map (Value.int k) := by
  apply List.ext_getElem?
  intro j
  by_cases hj : j < n
  · rw [h j hj]; simp [List.getElem?_eq_getElem (show j < ys.length by omega), List.getD]
  · rw [List.getElem?_eq_none (by omega), List.getElem?_eq_none (by simp; omega)]

/-- the string of bytes at j -/
theorem str_at (ys : List Int) (hr : ∀ z ∈ ys, 0 ≤ z ∧ z ≤ 255) (j : Nat) (h : j < (strOfNums ys).size) : (((strOfNums ys)[j]'h).toNat : Int) = ys.getD j 0 := by
  have h' : j < ys.length := by rw [← strOfNums_size]; exact h
  have hz := getD_rng hr j h'
  have e : (strOfNums ys)[j]'h = UInt8.ofNat (ys[j]).toNat := by
    show (strOfNums ys).data[j]'h = _
    simp [strOfNums]
  have e2 : ys.getD j 0 = ys[j] := by simp [List.getD, h']
  rw [e2] at hz
  rw [e, e2, UInt8.toNat_ofNat_of_lt' (by simp [UInt8.size]; omega)]
  omega
theorem zzunpad_S (S : ByteArray) (zs : List Int) (g n k : Nat) (w : World) (hS : S = strOfNums (zs.take (n - k))) (hn : zs.length = n) (h16 : 16 ≤ n) (hle : n ≤ 2097152)
    (hc : ∀ j, j < n → w.cell? ⟨g, j, none⟩ = some (.int .u8 (zs.getD j 0))) (hE : Ends zs k) :
    Calls Try.prog 10 #[.slice (some ⟨g, 0, none⟩) n n] w fun e w' =>
      e = .returned (.tuple #[.string S, .bool true]) ∧ w = w' := by
  subst hS
  exact zzunpad_yes zs g n k w hn h16 hle hc hE
/-- what the string S is good for -/
theorem S_facts {S : ByteArray} {zs : List Int} {n k : Nat} (hS : S = strOfNums (zs.take (n - k))) (hn : zs.length = n) (hr : ∀ z ∈ zs, 0 ≤ z ∧ z ≤ 255) :
    S.size = n - k ∧ ∀ j (h : j < S.size), ((S[j]'h).toNat : Int) = zs.getD j 0 := by
  subst hS
  have hsz : (strOfNums (zs.take (n - k))).size = n - k := by rw [strOfNums_size]; simp; omega
  refine ⟨hsz, fun j h => ?_⟩
  rw [str_at _ (fun z hz => hr z (List.mem_of_mem_take hz)) j h]
  simp [show j < n - k by omega]
end Go.Proofs.Qxb6601962a
