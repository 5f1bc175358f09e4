/-
  FnSelectProposerStepBounded: the walk.
-/
import Derived.Test.Qxb6602328aSplit
import Derived.Test.Qxb6602328aSelScale
namespace Go.Proofs.Qxb6602328a.fnSelectProposerStepBounded
open Go.RowKit

theorem select_any (base g1 g2 n : Nat) (ps qs : List Int) (T : Int) (w : World) (hne : g1 ≠ g2) (h1 : 1 ≤ n) (hn : n ≤ 65536)
    (hps : ∀ p ∈ ps, 1 ≤ p) (hT : T = tot ps) (hT2 : T ≤ 1152921504606846976) (hqs : ∀ q ∈ qs, -2305843009213693952 ≤ q ∧ q ≤ 2305843009213693952)
    (own1 : Row w base g1 n ps) (own2 : Row w base g2 n qs) :
    Calls Try.prog 9 #[.slice (some ⟨g1, 0, none⟩) n n, .slice (some ⟨g2, 0, none⟩) n n] w fun e w' => ∃ (p : Nat) (R : List Int), Step n T R p ∧ e = .returned (.int .i64 p) ∧ Row w' base g2 n R ∧ w.grownBy w' (some g2) := by
  have hpl := own1.len
  have hql := own2.len
  obtain ⟨lo, hlo⟩ := ex_min qs (by omega)
  obtain ⟨hi, hhi⟩ := ex_max qs (by omega)
  by_cases hk : hi - lo ≤ 2 * T
  · refine (select_keep base g1 g2 n ps qs lo hi T _ w hne h1 hn hps hT hT2 hqs own1 own2 hlo hhi hk rfl).mono ?_
    rintro e w' ⟨p, hp, rfl, hrow, hgr⟩
    exact ⟨p, _, step_law h1 hpl hql hps hT ⟨lo, hi, hlo, hhi, .inl ⟨hk, rfl⟩⟩ rfl hp, rfl, hrow, hgr⟩
  · refine (select_scale base g1 g2 n ps qs lo hi T _ _ w hne h1 hn hps hT hT2 hqs own1 own2 hlo hhi (by omega) rfl rfl).mono ?_
    rintro e w' ⟨p, hp, rfl, hrow, hgr⟩
    exact ⟨p, _, step_law h1 hpl hql hps hT ⟨lo, hi, hlo, hhi, .inr ⟨by omega, rfl⟩⟩ rfl hp, rfl, hrow, hgr⟩

theorem split_small (S : Int) (g n : Nat) (qs : List Int) (w : World) (hn : n ≤ 65536) (hl : qs.length = n)
    (hc : ∀ j, j < n → w.cell? ⟨g, j, none⟩ = some (.int .i64 (qs.getD j 0))) (hqs : ∀ q ∈ qs, -4611686018427387904 ≤ q ∧ q ≤ 4611686018427387904) (hS : S = tot qs) (h0 : 0 ≤ S) (h1 : S < n) :
    Calls Try.prog 10 #[.slice (some ⟨g, 0, none⟩) n n] w fun e w' => e = .returned (.tuple #[.int .i64 0, .int .i64 S]) ∧ w = w' := by
  refine (split_any g n qs w hn hl hc hqs).mono ?_
  rintro e w' ⟨rfl, rfl⟩
  exact ⟨ret_ints (by omega) (by omega), rfl⟩

theorem below_grown {w w' : World} (hb : Below w.heap.size w w') : w.grownBy w' none := ⟨hb.os, hb.tape, hb.output, hb.size, fun k hk _ => hb.block k hk⟩

set_option maxHeartbeats 3200000 in
theorem walk_main (b0 o0 c0 b1 o1 c1 n : Nat) (ps qs : List Int) (T : Int) (w : World) (h1 : 1 ≤ n) (hn : n ≤ 65536) (hp : ps.length = n) (hq : qs.length = n)
    (hb0 : b0 < w.heap.size) (hb1 : b1 < w.heap.size)
    (hc0 : ∀ j, j < n → w.cell? ⟨b0, o0 + j, none⟩ = some (.int .i64 (ps.getD j 0))) (hc1 : ∀ j, j < n → w.cell? ⟨b1, o1 + j, none⟩ = some (.int .i64 (qs.getD j 0)))
    (hps : ∀ p ∈ ps, 1 ≤ p) (hT : T = tot ps) (hT2 : T ≤ 1152921504606846976) (hqs : ∀ q ∈ qs, -2305843009213693952 ≤ q ∧ q ≤ 2305843009213693952) :
    Calls Try.prog 3 #[.slice (some ⟨b0, o0, none⟩) n c0, .slice (some ⟨b1, o1, none⟩) n c1] w fun e w' => e = .returned (.bool true) ∧ Below w.heap.size w w' := by
  have hT1 : 1 ≤ T := by have := tot_ge_len ps hps; omega
  have HC0 := hide hc0
  have HC1 := hide hc1
  have HPS := hide hps
  have HT := hide hT
  have HQS := hide hqs
  clear hc0 hc1 hps hT hqs
  go_enter Try.func3, Try.ntmps3
  go_wp2_with (first | (go_at_call 5; refine (zzb_yes _ _ _ _ _ _ _ hn hn).mono ?_; rintro e w1 ⟨rfl, rfl⟩) | (go_at_call 6; refine (pt_yes b0 o0 n c0 ps T _ h1 hn hp HC0.out HPS.out HT.out hT2).mono ?_; rintro e w1 ⟨rfl, rfl⟩))
  refine (within_yes b1 o1 n c1 qs _ _ _ hn hq HC1.out HQS.out).mono ?_
  rintro e w1 ⟨rfl, rfl⟩
  go_wp2_with fail
  refine (clone_any w.heap.size b0 o0 n c0 ps w hn hp hb0 (Nat.le_refl _) HC0.out).mono ?_
  rintro e w1 ⟨rfl, hr1, hbl1⟩
  have hlt1 : w.heap.size < w1.heap.size := (World.ownsRow.lt hr1 _ rfl).2
  have HR1 := hide hr1
  have HB1 := hide hbl1
  clear hr1 hbl1
  go_wp2_with fail
  refine (clone_any w.heap.size b1 o1 n c1 qs w1 hn hq (Nat.lt_trans hb1 hlt1) (Nat.le_of_lt hlt1) (fun j hj => by rw [HB1.out.cell (p := ⟨b1, o1 + j, none⟩) hb1]; exact HC1.out j hj)).mono ?_
  rintro e w2 ⟨rfl, hr2, hbl2⟩
  have hr12 : Row w2 w.heap.size w.heap.size n ps := World.ownsRow.kept HR1.out (below_grown hbl2) (.inr (by simp [Value.ownBlock]))
  have HB2 : Hid (Below w.heap.size w w2) := HB1.out.trans (hbl2.mono (Nat.le_of_lt hlt1))
  have HR12 := hide hr12
  have HR2 := hide hr2
  clear hr12 hr2 hbl2 HR1 HB1
  go_wp2_with fail
  refine (select_any w.heap.size w.heap.size w1.heap.size n ps qs T w2 (by omega) h1 hn HPS.out HT.out hT2 HQS.out HR12.out HR2.out).mono ?_
  rintro e w3 ⟨p, R, hst, rfl, hr3, hgr3⟩
  have HB3 : Hid (Below w.heap.size w w3) := HB2.out.grown hgr3 HB2.out.size (fun k hk => by cases hk; omega)
  obtain ⟨g2, hg2⟩ : ∃ g2, g2 = w1.heap.size := ⟨_, rfl⟩
  rw [← hg2] at hr3 ⊢
  have hplt := hst.lt
  have HST := hide hst
  have HR3 := hide hr3
  have hRl := hst.len
  clear hst hr3 hgr3 HB2 HR12 HR2 hg2 hlt1
  go_wp2_with fail
  refine (within_yes g2 0 n n R _ _ _ hn hRl (fun j hj => by rw [Nat.zero_add]; exact HR3.out.cell j hj) HST.out.within).mono ?_
  rintro e w4 ⟨rfl, rfl⟩
  obtain ⟨r, hr⟩ : ∃ r, r = R.getD p 0 := ⟨_, rfl⟩
  have hcr : w3.cell? ⟨g2, p, none⟩ = some (.int .i64 r) := by rw [HR3.out.cell p hplt, hr]
  have hrb : 1 - 2 * T ≤ r ∧ r ≤ 3 * T := by rw [hr]; exact HST.out.within _ (getD_mem (by omega))
  have HRr := hide hr
  clear hr
  go_wp2_with fail
  go_loop [10] (fun i => ∃ k : Nat, k ≤ n ∧ i = .int .i64 k) (fun i => n - (intOf i).toNat)
  case atStart => exact ⟨0, Nat.zero_le _, rfl⟩
  case round =>
    obtain ⟨k, hk, rfl⟩ := hrel
    by_cases hlt : k < n
    · obtain ⟨y, hy⟩ : ∃ y, y = R.getD k 0 := ⟨_, rfl⟩
      have hcy : w3.cell? ⟨g2, k, none⟩ = some (.int .i64 y) := by rw [HR3.out.cell k hlt, hy]
      have hy1 : y ≤ r + T := by rw [hy, HRr.out]; exact HST.out.all k hlt
      have hy2 : k < p → y < r + T := fun h => by rw [hy, HRr.out]; exact HST.out.before k h
      clear hy
      by_cases hkp : k < p
      · have hy3 := hy2 hkp
        clear hy2
        go_wp2
        go_round
        case rel => exact ⟨k + 1, by omega, by go_num⟩
        case measure => simp [intOf]; omega
      · clear hy2
        go_wp2
        go_round
        case rel => exact ⟨k + 1, by omega, by go_num⟩
        case measure => simp [intOf]; omega
    · obtain ⟨S, hS⟩ : ∃ S, S = tot R := ⟨_, rfl⟩
      have hS0 : 0 ≤ S := by rw [hS]; exact HST.out.low
      have hS1 : S < (n : Int) := by rw [hS]; exact HST.out.high
      have HS := hide hS
      clear hS
      go_wp2_with (go_at_call 10; refine (split_small S g2 n R _ hn hRl HR3.out.cell (fun q hq => by have := HST.out.within q hq; omega) HS.out hS0 hS1).mono ?_; rintro e w5 ⟨rfl, rfl⟩)
      go_ret
      exact ⟨by simp, HB3.out⟩

/-- WHAT THE WALK IS TOLD OF A SLICE OF INTEGERS THAT CAME IN -/
def IsRow (k : IntKind) (w : World) (a : Option Addr) (len cap : Nat) (zs : List Int) : Prop :=
  (a = none ∧ len = 0 ∧ cap = 0 ∧ zs = []) ∨
  ∃ x, a = some x ∧ len ≤ cap ∧ cap ≤ maxLen ∧ zs.length = cap ∧ (∀ i, i < zs.length → w.cell? (x.add i) = some (.int k (zs.getD i 0))) ∧ ∀ n ∈ zs, (Lit.int k n).wf = true

theorem IsRow.len {k : IntKind} {w : World} {a : Option Addr} {len cap : Nat} {zs : List Int} (h : IsRow k w a len cap zs) : len ≤ 9223372036854775807 := by
  rcases h with ⟨_, h, _⟩ | ⟨x, _, h, h2, _⟩
  · omega
  · unfold maxLen at h2; omega
theorem IsRow.cells {w : World} {a : Option Addr} {len cap : Nat} {zs : List Int} (h : IsRow .i64 w a len cap zs) (h1 : 1 ≤ len) :
    ∃ (b off : Nat) (ys : List Int), a = some ⟨b, off, none⟩ ∧ ys.length = len ∧ b < w.heap.size ∧ (∀ j, j < len → w.cell? ⟨b, off + j, none⟩ = some (.int .i64 (ys.getD j 0))) := by
  rcases h with ⟨_, h, _⟩ | ⟨x, rfl, hl, hcm, hz, hc, hw⟩
  · omega
  obtain ⟨b, off, spot⟩ := x
  have hspot : spot = none := by simpa [Addr.add] using World.cell?_spot (hc 0 (by omega))
  subst hspot
  have hc' : ∀ j, j < zs.length → w.cell? ⟨b, off + j, none⟩ = some (.int .i64 (zs.getD j 0)) := fun j hj => by have := hc j hj; rwa [Addr.add_lit] at this
  refine ⟨b, off, zs.take len, rfl, by simp; omega, ?_, fun j hj => ?_⟩
  · have h := hc' 0 (by omega)
    unfold World.cell? at h
    by_cases hb : b < w.heap.size
    · exact hb
    · simp [Array.getElem?_eq_none (show w.heap.size ≤ b by omega)] at h
  · rw [hc' j (by omega)]; simp [hj]

set_option maxHeartbeats 1600000 in
theorem walk (a0 : Option Addr) (len0 cap0 : Nat) (z0 : List Int) (a1 : Option Addr) (len1 cap1 : Nat) (z1 : List Int) (w : World) (w0 : IsRow .i64 w a0 len0 cap0 z0) (w1 : IsRow .i64 w a1 len1 cap1 z1) :
    Calls Try.prog 3 #[.slice a0 len0 cap0, .slice a1 len1 cap1] w fun e w' => e = .returned (.bool true) ∧ Below w.heap.size w w' := by
  have l0 := w0.len
  have l1 := w1.len
  have H0 := hide w0
  have H1 := hide w1
  clear w0 w1
  by_cases g0 : 65536 < len0
  · go_enter Try.func3, Try.ntmps3
    go_wp2_with (go_at_call 5; refine (zzb_any _ _ _ _ _ _ _ l0 l1).mono ?_; rintro e w1 ⟨⟨b, rfl⟩, rfl⟩; cases b)
    all_goals go_ret
    all_goals exact ⟨rfl, Below.refl _ _⟩
  by_cases g1 : 65536 < len1
  · go_enter Try.func3, Try.ntmps3
    go_wp2_with (go_at_call 5; refine (zzb_any _ _ _ _ _ _ _ l0 l1).mono ?_; rintro e w1 ⟨⟨b, rfl⟩, rfl⟩; cases b)
    all_goals go_ret
    all_goals exact ⟨rfl, Below.refl _ _⟩
  have n0 : len0 ≤ 65536 := by omega
  have n1 : len1 ≤ 65536 := by omega
  by_cases ge : len0 = len1
  · subst ge
    by_cases gz : 1 ≤ len0
    · obtain ⟨b0, o0, ps, rfl, hp, hb0, hc0⟩ := H0.out.cells gz
      obtain ⟨b1, o1, qs, rfl, hq, hb1, hc1⟩ := H1.out.cells gz
      clear H0 H1
      by_cases gp : (∀ p ∈ ps, 1 ≤ p) ∧ tot ps ≤ 1152921504606846976
      · by_cases gq : ∀ q ∈ qs, -2305843009213693952 ≤ q ∧ q ≤ 2305843009213693952
        · exact walk_main b0 o0 cap0 b1 o1 cap1 len0 ps qs (tot ps) w gz n0 hp hq hb0 hb1 hc0 hc1 gp.1 rfl gp.2 gq
        · have HC0 := hide hc0
          have HC1 := hide hc1
          have HGP := hide gp
          have HGQ := hide gq
          clear hc0 hc1 gp gq
          obtain ⟨T, hT⟩ : ∃ T, T = tot ps := ⟨_, rfl⟩
          have HT := hide hT
          have hT2 : T ≤ 1152921504606846976 := by rw [hT]; exact HGP.out.2
          clear hT
          go_enter Try.func3, Try.ntmps3
          go_wp2_with (first | (go_at_call 5; refine (zzb_yes _ _ _ _ _ _ _ n0 n1).mono ?_; rintro e w1 ⟨rfl, rfl⟩) | (go_at_call 6; refine (pt_yes b0 o0 len0 cap0 ps T _ gz n0 hp HC0.out HGP.out.1 HT.out hT2).mono ?_; rintro e w1 ⟨rfl, rfl⟩))
          refine (within_no b1 o1 len0 cap1 qs _ _ _ n0 hq HC1.out HGQ.out).mono ?_
          rintro e w1 ⟨rfl, rfl⟩
          go_wp2_with fail
          go_ret
          exact ⟨rfl, Below.refl _ _⟩
      · have HC0 := hide hc0
        have HGP := hide gp
        clear hc0 hc1 gp
        go_enter Try.func3, Try.ntmps3
        go_wp2_with (first | (go_at_call 5; refine (zzb_yes _ _ _ _ _ _ _ n0 n1).mono ?_; rintro e w1 ⟨rfl, rfl⟩) | (go_at_call 6; refine (pt_no b0 o0 len0 cap0 ps _ gz n0 hp HC0.out HGP.out).mono ?_; rintro e w1 ⟨rfl, rfl⟩))
        go_ret
        exact ⟨rfl, Below.refl _ _⟩
    · obtain rfl : len0 = 0 := by omega
      clear H0 H1
      go_enter Try.func3, Try.ntmps3
      go_wp2_with (first | (go_at_call 5; refine (zzb_yes _ _ _ _ _ _ _ n0 n1).mono ?_; rintro e w1 ⟨rfl, rfl⟩) | (go_at_call 6; refine (pt_empty _ _ _).mono ?_; rintro e w1 ⟨rfl, rfl⟩))
      go_ret
      exact ⟨rfl, Below.refl _ _⟩
  · clear H0 H1
    go_enter Try.func3, Try.ntmps3
    go_wp2_with (go_at_call 5; refine (zzb_yes _ _ _ _ _ _ _ n0 n1).mono ?_; rintro e w1 ⟨rfl, rfl⟩)
    go_ret
    exact ⟨rfl, Below.refl _ _⟩
end Go.Proofs.Qxb6602328a.fnSelectProposerStepBounded
