/-
  names.pad, names.ZZpad and the four zzBytes_ guards: contracts.
-/
import Derived.Test.Qxb6601962aRows
import Derived.WalkKit
import Derived.ProofKit
import Derived.Room.AppendFits
namespace Go.Proofs.Qxb6601962a
open Go.RowKit

theorem Try.info5 : (Try.prog.info? 5).map (fun i => (i.zero, i.size, i.bytes)) = some (some (.int .u8 0), 1, 1) := by kernel_rfl

/-- the number of bytes that pad adds -/
def padK (n : Nat) : Nat := 16 - n % 16
/-- the bytes of a string, as numbers -/
def nums (s : ByteArray) : List Int := s.data.toList.map fun b => (b.toNat : Int)
/-- what pad hands back -/
def padL (s : ByteArray) : List Int := nums s ++ List.replicate (padK s.size) (padK s.size : Int)

theorem padK_bd (n : Nat) : 1 ≤ padK n ∧ padK n ≤ 16 := by unfold padK; omega
theorem strCells_nums (s : ByteArray) : Lib.strCells s = (nums s).map (Value.int .u8) := by
  unfold Lib.strCells nums; rw [List.map_map]; rfl
theorem nums_length (s : ByteArray) : (nums s).length = s.size := by
  unfold nums; rw [List.length_map, Array.length_toList]; rfl
theorem padL_length (s : ByteArray) : (padL s).length = s.size + padK s.size := by
  unfold padL; rw [List.length_append, nums_length, List.length_replicate]

set_option maxHeartbeats 1600000 in
theorem pad_any (s : ByteArray) (w : World) (hs : s.size ≤ 1048576) :
    Calls Try.prog 13 #[.string s] w fun e w' =>
      e = .returned (.slice (some ⟨w.heap.size, 0, none⟩) (s.size + padK s.size) (s.size + padK s.size)) ∧
      w'.ownsRow w.heap.size 5 1 (.slice (some ⟨w.heap.size, 0, none⟩) (s.size + padK s.size) (s.size + padK s.size)) (s.size + padK s.size) ((padL s).map (Value.int .u8)) ∧ Below w.heap.size w w' := by
  obtain ⟨i0, hi, hz0, hz1, hz2⟩ := info_parts Try.info5
  have hK := padK_bd s.size
  have HK : Hid ((padK s.size : Int) = 16 - (s.size : Int) % 16) := by unfold padK; show _ = _; omega
  go_enter Try.func13, Try.ntmps13
  go_wp2_with (at_make; refine wpList_make_own _ rfl _ _ 23 rfl w.heap.size 5 i0 (.int .u8 0) 1 Try.underlying23 hi hz0 hz1 _ _ _ (s.size + padK s.size) rfl rfl ?b1 ?b2 ?b3 (Nat.le_refl _) ?_)
  case b1 => have := HK.out; simp; omega
  case b2 => rw [hz2]; omega
  case b3 => unfold maxLen; omega
  intro w0 hown0 hgrow0
  go_wp2_with (at_builtin; refine Lib.wpList_append_fits_string _ rfl (.tmp 14) (.tmp 15) 23 9 rfl w.heap.size 5 i0 Try.underlying23 Try.underlying9 hi hz1 _ _ _ _ rfl hown0 s rfl (by omega) (by omega) ?_)
  intro w1 hown1 hgrow1
  have hb1 : Below w.heap.size w w1 := ((Below.refl _ _).grown hgrow0 (Nat.le_refl _) (fun k h => by cases h)).grown hgrow1 hgrow0.size (fun k h => by cases h; exact Nat.le_refl _)
  rw [strCells_nums] at hown1
  clear hown0 hgrow0 hgrow1
  go_wp2
  go_loopw [4, 18] (fun b i wr => ∃ k : Nat, k ≤ padK s.size ∧ i = .int .i64 k ∧ b = .slice (some ⟨w.heap.size, 0, none⟩) (s.size + k) (s.size + padK s.size) ∧
      wr.ownsRow w.heap.size 5 1 (.slice (some ⟨w.heap.size, 0, none⟩) (s.size + k) (s.size + padK s.size)) (s.size + k) ((nums s ++ List.replicate k (padK s.size : Int)).map (Value.int .u8)) ∧ Below w.heap.size w wr)
    (fun _ i _ => padK s.size - (intOf i).toNat)
  case atStart => exact ⟨0, Nat.zero_le _, rfl, rfl, by simpa using hown1, hb1⟩
  case round =>
    obtain ⟨k, hk, rfl, rfl, hown, hb⟩ := hrel
    by_cases hlt : k < padK s.size
    · have hlt' : (k : Int) < 16 - (s.size : Int) % 16 := by have := HK.out; omega
      go_wp2_with (at_builtin; refine wpList_append_fits _ rfl (.tmp 20) (.tmp 23) 23 rfl w.heap.size 5 i0 1 Try.underlying23 hi hz1 w.heap.size (s.size + k) (s.size + padK s.size) _ rfl (hown.alloc _) ⟨wr.heap.size, 0, none⟩ 1 1 [.int .u8 (16 - (s.size : Int) % 16)] rfl rfl (by intro t u ht; match t, ht with | 0, ht => simp at ht; subst ht; simp [Addr.add]) (by intro u hu; simp at hu; subst hu; rfl) (by omega) ?_; intro w2 hown2 hgrow2)
      have hown3 : w2.ownsRow w.heap.size 5 1 (.slice (some ⟨w.heap.size, 0, none⟩) (s.size + (k + 1)) (s.size + padK s.size)) (s.size + (k + 1)) ((nums s ++ List.replicate (k + 1) (padK s.size : Int)).map (Value.int .u8)) := by
        have e := HK.out
        rw [← e] at hown2
        have e2 : (nums s ++ List.replicate (k + 1) (padK s.size : Int)).map (Value.int .u8) = (nums s ++ List.replicate k (padK s.size : Int)).map (Value.int .u8) ++ [.int .u8 (padK s.size : Int)] := by
          rw [List.replicate_succ']; simp
        rw [e2]; exact hown2
      have hb2 : Below w.heap.size w w2 := (hb.alloc hb.size _).grown hgrow2 (by simp; have := hb.size; omega) (fun k hk => by cases hk; exact Nat.le_refl _)
      go_roundw
      case rel => exact ⟨k + 1, by omega, by go_num, rfl, hown3, hb2⟩
      case measure => simp [intOf]; omega
    · have hlt' : ¬ (k : Int) < 16 - (s.size : Int) % 16 := by have := HK.out; omega
      have hke : k = padK s.size := by omega
      go_wp2
      go_ret
      subst hke
      exact ⟨rfl, hown, hb⟩

theorem zzpad_any (s : ByteArray) (w : World) (hs : s.size ≤ 1048576) :
    Calls Try.prog 8 #[.string s] w fun e w' =>
      e = .returned (.slice (some ⟨w.heap.size, 0, none⟩) (s.size + padK s.size) (s.size + padK s.size)) ∧
      w'.ownsRow w.heap.size 5 1 (.slice (some ⟨w.heap.size, 0, none⟩) (s.size + padK s.size) (s.size + padK s.size)) (s.size + padK s.size) ((padL s).map (Value.int .u8)) ∧ Below w.heap.size w w' := by
  go_enter Try.func8, Try.ntmps8
  go_wp2_with (go_at_call 13; refine (pad_any _ _ hs).mono ?_; rintro e w1 ⟨rfl, hown, hb⟩)
  go_ret
  exact ⟨rfl, hown, hb⟩
theorem hide {p : Prop} (h : p) : Hid p := h
theorem nums_getD (s : ByteArray) (j : Nat) (h : j < s.size) : (nums s).getD j 0 = ((s[j]'h).toNat : Int) := by
  have h' : j < s.data.toList.length := by rw [Array.length_toList]; exact h
  have e : (nums s)[j]? = some ((s.data.toList[j]).toNat : Int) := by
    unfold nums; rw [List.getElem?_map, List.getElem?_eq_getElem h']; rfl
  rw [List.getD, e]
  simp
  rfl
theorem padL_low (s : ByteArray) (j : Nat) (h : j < s.size) : (padL s).getD j 0 = ((s[j]'h).toNat : Int) := by
  rw [← nums_getD s j h]
  unfold padL
  have := nums_length s
  simp [List.getElem?_append, this, h]
theorem padL_high (s : ByteArray) (j : Nat) (h : s.size ≤ j) (h2 : j < s.size + padK s.size) : (padL s).getD j 0 = (padK s.size : Int) := by
  unfold padL
  have := nums_length s
  simp [List.getElem?_append, this, show ¬ j < s.size by omega, show j - s.size < padK s.size by omega]
theorem own_cell {w : World} {base g n : Nat} {zs : List Int} {k : IntKind} {e : TypeId} (h : w.ownsRow base e 1 (.slice (some ⟨g, 0, none⟩) n n) n (zs.map (Value.int k))) (j : Nat) (hj : j < n) :
    w.cell? ⟨g, j, none⟩ = some (.int k (zs.getD j 0)) := by
  have hl : zs.length = n := by simpa using h.1
  rw [h.cellAt j (by omega)]
  simp [List.getElem?_eq_getElem (show j < zs.length by omega), List.getD]
end Go.Proofs.Qxb6601962a
