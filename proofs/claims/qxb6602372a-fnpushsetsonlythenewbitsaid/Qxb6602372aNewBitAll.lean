/-
  FnPushSetsOnlyTheNewBit: every input.
-/
import Derived.Test.Qxb6602372aNewBitWalk
namespace Go.Proofs.Qxb6602372a.fnPushSetsOnlyTheNewBit
open Go.RowKit

/-- WHAT THE WALK IS TOLD OF A SLICE OF INTEGERS THAT CAME IN -/
def IsRow (k : IntKind) (w : World) (a : Option Addr) (len cap : Nat) (zs : List Int) : Prop :=
  (a = none ∧ len = 0 ∧ cap = 0 ∧ zs = []) ∨
  ∃ x, a = some x ∧ len ≤ cap ∧ cap ≤ maxLen ∧ zs.length = cap ∧ (∀ i, i < zs.length → w.cell? (x.add i) = some (.int k (zs.getD i 0))) ∧ ∀ n ∈ zs, (Lit.int k n).wf = true

theorem IsRow.len {k : IntKind} {w : World} {a : Option Addr} {len cap : Nat} {zs : List Int} (h : IsRow k w a len cap zs) : len ≤ 9223372036854775807 := by
  rcases h with ⟨_, h, _⟩ | ⟨x, _, h, h2, _⟩
  · omega
  · unfold maxLen at h2; omega
theorem IsRow.cells {w : World} {x : Addr} {len cap : Nat} {zs : List Int} (hl : len ≤ cap) (hz : zs.length = cap) (h1 : 1 ≤ len)
    (hc : ∀ i, i < zs.length → w.cell? (x.add i) = some (.int .u64 (zs.getD i 0))) (hw : ∀ n ∈ zs, (Lit.int .u64 n).wf = true) :
    ∃ (b off : Nat) (ys : List Int), x = ⟨b, off, none⟩ ∧ ys.length = len ∧ b < w.heap.size ∧ (∀ j, j < len → w.cell? ⟨b, off + j, none⟩ = some (.int .u64 (ys.getD j 0))) ∧ ∀ z ∈ ys, 0 ≤ z ∧ z ≤ 18446744073709551615 := by
  obtain ⟨b, off, spot⟩ := x
  have hspot : spot = none := by simpa [Addr.add] using World.cell?_spot (hc 0 (by omega))
  subst hspot
  have hc' : ∀ j, j < zs.length → w.cell? ⟨b, off + j, none⟩ = some (.int .u64 (zs.getD j 0)) := fun j hj => by have := hc j hj; rwa [Addr.add_lit] at this
  refine ⟨b, off, zs.take len, rfl, by simp; omega, ?_, fun j hj => ?_, fun z hz' => ?_⟩
  · have h := hc' 0 (by omega)
    unfold World.cell? at h
    by_cases hb : b < w.heap.size
    · exact hb
    · simp [Array.getElem?_eq_none (show w.heap.size ≤ b by omega)] at h
  · rw [hc' j (by omega)]; simp [hj]
  · exact bounds_u64 (hw z (List.mem_of_mem_take hz'))

set_option maxHeartbeats 800000 in
theorem walk (a0 : Option Addr) (len0 cap0 : Nat) (z0 : List Int) (a1 : Int) (a2 : Bool) (w : World) (w0 : IsRow .u64 w a0 len0 cap0 z0) (w1 : (Lit.int .i64 a1).wf = true) :
    Calls Try.prog 9 #[.slice a0 len0 cap0, .int .i64 a1, .bool a2] w fun e w' => e = .returned (.bool true) ∧ Below w.heap.size w w' := by
  have hlen := w0.len
  have b1 := bounds_i64 w1
  clear w1
  by_cases g0 : len0 ≤ 1048576
  · by_cases g1 : 131072 < len0
    · clear w0
      go_enter Try.func9, Try.ntmps9
      go_wp2_with (go_at_call 22; refine (zzb22_yes _ _ _ _ _ _ g0).mono ?_; rintro e w1 ⟨rfl, rfl⟩)
      go_ret
      exact ⟨rfl, Below.refl _ _⟩
    by_cases g2 : a1 < 0
    · clear w0
      go_enter Try.func9, Try.ntmps9
      go_wp2_with (go_at_call 22; refine (zzb22_yes _ _ _ _ _ _ g0).mono ?_; rintro e w1 ⟨rfl, rfl⟩)
      go_ret
      exact ⟨rfl, Below.refl _ _⟩
    by_cases g3 : 64 * (len0 : Int) < a1
    · clear w0
      go_enter Try.func9, Try.ntmps9
      go_wp2_with (go_at_call 22; refine (zzb22_yes _ _ _ _ _ _ g0).mono ?_; rintro e w1 ⟨rfl, rfl⟩)
      go_ret
      exact ⟨rfl, Below.refl _ _⟩
    obtain ⟨d, rfl⟩ : ∃ d : Nat, a1 = d := ⟨a1.toNat, by omega⟩
    rcases w0 with ⟨rfl, rfl, _, _⟩ | ⟨x, rfl, hlc, hcm, hzl, hc, hw⟩
    · obtain rfl : d = 0 := by omega
      exact walk_nil cap0 a2 w
    · by_cases g4 : 1 ≤ len0
      · obtain ⟨b, off, ys, rfl, hy, hb, hcy, hr⟩ := IsRow.cells hlc hzl g4 hc hw
        exact walk_main _ len0 cap0 d ys a2 w (by omega) (by omega) hy (clone_any w.heap.size b off len0 cap0 ys w (by omega) hy hb (Nat.le_refl _) hcy) hr
      · obtain rfl : len0 = 0 := by omega
        exact walk_main _ 0 cap0 d [] a2 w (by omega) (by omega) rfl (clone_zero w.heap.size cap0 x w (Nat.le_refl _)) (by simp)
  · clear w0
    go_enter Try.func9, Try.ntmps9
    go_wp2_with (go_at_call 22; refine (zzb22_no _ _ _ _ _ _ g0 hlen).mono ?_; rintro e w1 ⟨rfl, rfl⟩)
    go_ret
    exact ⟨rfl, Below.refl _ _⟩
end Go.Proofs.Qxb6602372a.fnPushSetsOnlyTheNewBit
