/-
  consensus.SelectProposer where nothing is rescaled: its contract.
-/
import Derived.Test.Qxb6602328aSelMath
namespace Go.Proofs.Qxb6602328a
open Go.RowKit

theorem min_at (lo : Int) (g n : Nat) (qs : List Int) (w : World) (h1 : 1 ≤ n) (hn : n ≤ 65536) (hq : qs.length = n)
    (hc : ∀ j, j < n → w.cell? ⟨g, j, none⟩ = some (.int .i64 (qs.getD j 0))) (hlo : IsMin qs lo) :
    Calls Try.prog 11 #[.slice (some ⟨g, 0, none⟩) n n] w fun e w' => e = .returned (.int .i64 lo) ∧ w = w' := by
  refine (min_any g n qs w h1 hn hq hc).mono ?_
  rintro e w' ⟨m, hm, rfl, rfl⟩
  have e1 := hm.2 _ hlo.1
  have e2 := hlo.2 _ hm.1
  exact ⟨ret_int (by omega), rfl⟩
theorem max_at (hi : Int) (g n : Nat) (qs : List Int) (w : World) (h1 : 1 ≤ n) (hn : n ≤ 65536) (hq : qs.length = n)
    (hc : ∀ j, j < n → w.cell? ⟨g, j, none⟩ = some (.int .i64 (qs.getD j 0))) (hhi : IsMax qs hi) :
    Calls Try.prog 12 #[.slice (some ⟨g, 0, none⟩) n n] w fun e w' => e = .returned (.int .i64 hi) ∧ w = w' := by
  refine (max_any g n qs w h1 hn hq hc).mono ?_
  rintro e w' ⟨m, hm, rfl, rfl⟩
  have e1 := hm.2 _ hhi.1
  have e2 := hhi.2 _ hm.1
  exact ⟨ret_int (by omega), rfl⟩
theorem floorDiv_at (F a b : Int) (w : World) (hb : 1 ≤ b) (hb2 : b ≤ 65536) (ha : -4294967296 ≤ a) (ha2 : a ≤ 4294967296) (hF : F = a / b) :
    Calls Try.prog 13 #[.int .i64 a, .int .i64 b] w fun e w' => e = .returned (.int .i64 F) ∧ w = w' := by
  subst hF
  exact floorDiv_any a b w hb hb2 ha ha2

set_option maxHeartbeats 3200000 in
theorem select_keep (base g1 g2 n : Nat) (ps qs : List Int) (lo hi T A : Int) (w : World) (hne : g1 ≠ g2) (h1 : 1 ≤ n) (hn : n ≤ 65536)
    (hps : ∀ p ∈ ps, 1 ≤ p) (hT : T = tot ps) (hT2 : T ≤ 1152921504606846976) (hqs : ∀ q ∈ qs, -2305843009213693952 ≤ q ∧ q ≤ 2305843009213693952)
    (own1 : Row w base g1 n ps) (own2 : Row w base g2 n qs) (hlo : IsMin qs lo) (hhi : IsMax qs hi) (hkeep : hi - lo ≤ 2 * T) (hA : A = tot qs / n) :
    Calls Try.prog 9 #[.slice (some ⟨g1, 0, none⟩) n n, .slice (some ⟨g2, 0, none⟩) n n] w fun e w' => ∃ p : Nat, IsPick (bump A ps qs) p ∧ e = .returned (.int .i64 p) ∧
      Row w' base g2 n ((bump A ps qs).set p ((bump A ps qs).getD p 0 - T)) ∧ w.grownBy w' (some g2) := by
  have hpl := own1.len
  have hql := own2.len
  have HT := hide hT
  have HPS := hide hps
  have HQS := hide hqs
  have HLO := hide hlo
  have HHI := hide hhi
  have hlob := hqs _ hlo.1
  have hhib := hqs _ hhi.1
  have hT1 : 1 ≤ T := by have := tot_ge_len ps hps; omega
  have HA := hide hA
  have HO1 := hide own1
  have HO2 := hide own2
  clear hT hps hqs hlo hhi hA own1 own2
  go_enter Try.func9, Try.ntmps9
  go_wp2
  go_loop [5, 23] (fun t i => ∃ (k : Nat) (z : Int), k ≤ n ∧ i = .int .i64 k ∧ t = .int .i64 z ∧ z = tot (ps.take k)) (fun _ i => n - (intOf i).toNat)
  case atStart => exact ⟨0, 0, Nat.zero_le _, rfl, rfl, by simp [tot]⟩
  case round =>
    obtain ⟨k, z, hk, rfl, rfl, hz⟩ := hrel
    have hzb : 0 ≤ z ∧ z ≤ T := by rw [hz, HT.out]; exact tot_take_le ps k (fun p hp => by have := HPS.out p hp; omega)
    have HZ := hide hz
    clear hz
    by_cases hlt : k < n
    · obtain ⟨y, hy⟩ : ∃ y, y = ps.getD k 0 := ⟨_, rfl⟩
      have hck : w.cell? ⟨g1, k, none⟩ = some (.int .i64 y) := by rw [HO1.out.cell k hlt, hy]
      have hs := tot_take_succ ps k (by omega)
      have hb2 : 0 ≤ tot (ps.take (k + 1)) ∧ tot (ps.take (k + 1)) ≤ T := by rw [HT.out]; exact tot_take_le ps (k + 1) (fun p hp => by have := HPS.out p hp; omega)
      have hzy : 0 ≤ z + y ∧ z + y ≤ T := by rw [HZ.out, hy, ← hs]; exact hb2
      have HY := hide hy
      have HS := hide hs
      clear hy hs hb2
      go_wp2
      go_round
      case rel => exact ⟨k + 1, z + y, by omega, by go_num, rfl, by rw [HS.out, HZ.out, HY.out]⟩
      case measure => simp [intOf]; omega
    · obtain rfl : T = z := by rw [HZ.out, HT.out, tot_take_all ps k (by omega)]
      clear HZ
      go_wp2_with (first | (go_at_call 11; refine (min_at lo g2 n qs _ h1 hn hql HO2.out.cell HLO.out).mono ?_; rintro e w1 ⟨rfl, rfl⟩) | (go_at_call 12; refine (max_at hi g2 n qs _ h1 hn hql HO2.out.cell HHI.out).mono ?_; rintro e w1 ⟨rfl, rfl⟩))
      have HOQ := HO2
      have HG : Hid (w.grownBy w (some g2)) := grown_refl w g2
      have HQB := HQS
      clear HO2 HQS
      have hq1l := HOQ.out.len
      have HP1 : Hid (∀ j, j < n → w.cell? ⟨g1, j, none⟩ = some (.int .i64 (ps.getD j 0))) := (HO1.out.kept HG.out hne).cell
      go_loop [14, 15, 67] (fun a b i => ∃ (k : Nat) (x y : Int), k ≤ n ∧ i = .int .i64 k ∧ a = .int .i64 x ∧ b = .int .i64 y ∧ x = tot ((qs.take k).map (·.tdiv n)) ∧ y = tot ((qs.take k).map (·.tmod n))) (fun _ _ i => n - (intOf i).toNat)
      case atStart => exact ⟨0, 0, 0, Nat.zero_le _, rfl, rfl, rfl, by simp [tot], by simp [tot]⟩
      case round =>
        obtain ⟨k3, x, y, hk3, rfl, rfl, rfl, hx, hy⟩ := hrel
        have hxb : -2305843009213693952 ≤ x ∧ x ≤ 2305843009213693952 := by
          rw [hx]; exact tot_tdiv_bd _ _ _ (by omega) (by simp; omega) (by omega) (fun q hq => HQB.out q (List.mem_of_mem_take hq))
        have hyb : -4294967296 ≤ y ∧ y ≤ 4294967296 := by
          rw [hy]; exact tmod_small (qs.take k3) n (by omega) hn (by simp; omega)
        have HX := hide hx
        have HYY := hide hy
        clear hx hy
        by_cases hlt3 : k3 < n
        · obtain ⟨u, hu⟩ : ∃ u, u = qs.getD k3 0 := ⟨_, rfl⟩
          have hck : w.cell? ⟨g2, k3, none⟩ = some (.int .i64 u) := by rw [HOQ.out.cell k3 hlt3, hu]
          have hub : -2305843009213693952 ≤ u ∧ u ≤ 2305843009213693952 := by rw [hu]; exact HQB.out _ (getD_mem (by omega))
          have hd1 := tdiv_bd u n 2305843009213693952 (by omega) hub.1 hub.2
          have hd2 := tmod_bd u n (by omega)
          have HU := hide hu
          clear hu
          go_wp2
          go_round
          case rel => exact ⟨k3 + 1, _, _, by omega, by go_num, rfl, rfl, by rw [tot_map_take _ _ _ (by omega), ← HX.out, ← HU.out], by rw [tot_map_take _ _ _ (by omega), ← HYY.out, ← HU.out]⟩
          case measure => simp [intOf]; omega
        · obtain ⟨F, hF⟩ : ∃ F, F = y / (n : Int) := ⟨_, rfl⟩
          have hFb : -4294967296 ≤ F ∧ F ≤ 4294967296 := by rw [hF]; exact ediv_bd y n (by omega) hyb.1 hyb.2
          have HF := hide hF
          have HXF : Hid (x + F = A) := by
            show x + F = A
            rw [HF.out, HA.out, HX.out, HYY.out, List.take_of_length_le (by omega)]
            exact avg_eq _ _ (by omega)
          clear hF
          go_wp2_with (go_at_call 13; refine (floorDiv_at F y n _ (by omega) (by omega) hyb.1 hyb.2 HF.out).mono ?_; rintro e w1 ⟨rfl, rfl⟩)
          have hxF : -2305843013508661248 ≤ x + F ∧ x + F ≤ 2305843013508661248 := by omega
          clear hFb HF hlt3 HX HYY hxb hyb
          obtain ⟨B, hB⟩ : ∃ B, B = bump A ps qs := ⟨_, rfl⟩
          have hBl : B.length = n := by rw [hB]; exact bump_len hpl hq1l
          have HBat : Hid (∀ j, j < n → B.getD j 0 = qs.getD j 0 + (ps.getD j 0 - (x + F))) := by
            show ∀ j, j < n → _
            intro j hj
            rw [hB, HXF.out]; exact bump_at hpl hq1l j hj
          have HBe := hide hB
          clear hB
          go_loopw [19, 89] (fun pk i wr => ∃ (k p : Nat) (xs : List Int), k ≤ n ∧ p < n ∧ (p < k ∨ (k = 0 ∧ p = 0)) ∧ i = .int .i64 k ∧ pk = .int .i64 p ∧ (∀ j, j < k → xs.getD j 0 = B.getD j 0) ∧ (∀ j, k ≤ j → j < n → xs.getD j 0 = qs.getD j 0) ∧
              (∀ j, j < p → B.getD j 0 < B.getD p 0) ∧ (∀ j, j < k → B.getD j 0 ≤ B.getD p 0) ∧ Row wr base g2 n xs ∧ w.grownBy wr (some g2)) (fun _ i _ => n - (intOf i).toNat)
          case atStart => exact ⟨0, 0, qs, Nat.zero_le _, by omega, .inr ⟨rfl, rfl⟩, rfl, rfl, fun j h => by omega, fun j _ _ => rfl, fun j h => by omega, fun j h => by omega, HOQ.out, HG.out⟩
          case round =>
            obtain ⟨k4, p, xs, hk4, hp, hpk, rfl, rfl, hlow, hhigh, hbef, hall, hrow, hgr⟩ := hrel
            have HL := hide hlow
            have HH := hide hhigh
            have HB := hide hbef
            have HALL := hide hall
            have HR := hide hrow
            have HGR := hide hgr
            have hxl := hrow.len
            clear hlow hhigh hbef hall hrow hgr
            by_cases hlt4 : k4 < n
            · obtain ⟨u, hu⟩ : ∃ u, u = qs.getD k4 0 := ⟨_, rfl⟩
              have hub : -2305843009213693952 ≤ u ∧ u ≤ 2305843009213693952 := by rw [hu]; exact HQB.out _ (getD_mem (by omega))
              obtain ⟨v, hv⟩ : ∃ v, v = ps.getD k4 0 := ⟨_, rfl⟩
              have hvb : 1 ≤ v ∧ v ≤ 1152921504606846976 := by
                rw [hv]
                have h1 := HPS.out _ (getD_mem (show k4 < ps.length by omega))
                have h2 := elem_le_tot ps (fun p hp => by have := HPS.out p hp; omega) _ (getD_mem (show k4 < ps.length by omega))
                rw [← HT.out] at h2
                omega
              have hcu : wr.cell? ⟨g2, k4, none⟩ = some (.int .i64 u) := by rw [HR.out.cell k4 hlt4, HH.out k4 (by omega) hlt4, hu]
              have hcv : wr.cell? ⟨g1, k4, none⟩ = some (.int .i64 v) := by rw [(HO1.out.kept HGR.out hne).cell k4 hlt4, hv]
              have hfr := HR.out.frozen k4
              have hBk : u + (v - (x + F)) = B.getD k4 0 := by rw [HBat.out k4 hlt4, hu, hv]
              have HBk := hide hBk
              clear hu hv hBk
              rcases hpk with hpk | ⟨rfl, rfl⟩
              · have hcp : wr.cell? ⟨g2, p, none⟩ = some (.int .i64 (B.getD p 0)) := by rw [HR.out.cell p hp, HL.out p hpk]
                obtain ⟨b, hb⟩ : ∃ b, b = B.getD p 0 := ⟨_, rfl⟩
                rw [← hb] at hcp
                have HBb := hide hb
                clear hb
                go_wp2
                go_region
                go_wp2
                go_quiet (fail)
                go_wp2
                · have S := sel_step (q := 1 + nq) hlt4 HBk.out HL.out HH.out HR.out HGR.out
                  have hlt5 : b < u + (v - (x + F)) := by assumption
                  rw [HBb.out, HBk.out] at hlt5
                  have P := pick_new HALL.out hlt5
                  go_roundw
                  case rel => exact ⟨k4 + 1, k4, _, by omega, hlt4, .inl (by omega), by go_num, rfl, S.1, S.2.1, P.1, P.2, S.2.2.1, S.2.2.2⟩
                  case measure => simp [intOf]; omega
                · have S := sel_step (q := 1 + nq) hlt4 HBk.out HL.out HH.out HR.out HGR.out
                  have hlt5 : u + (v - (x + F)) ≤ b := by assumption
                  rw [HBb.out, HBk.out] at hlt5
                  have P := pick_old HALL.out hlt5
                  go_roundw
                  case rel => exact ⟨k4 + 1, p, _, by omega, hp, .inl (by omega), by go_num, rfl, S.1, S.2.1, HB.out, P, S.2.2.1, S.2.2.2⟩
                  case measure => simp [intOf]; omega
              · go_wp2
                go_region
                go_wp2
                go_quiet (fail)
                go_wp2
                have S := sel_step (q := 1 + nq) hlt4 HBk.out HL.out HH.out HR.out HGR.out
                go_roundw
                case rel => exact ⟨0 + 1, 0, _, by omega, hp, .inl (by omega), by go_num, rfl, S.1, S.2.1, fun j h => by omega, fun j h => by rw [show j = 0 by omega]; exact Int.le_refl _, S.2.2.1, S.2.2.2⟩
                case measure => simp [intOf]; omega
            · have hke : k4 = n := by omega
              obtain rfl : xs = B := ext_getD hxl hBl (fun j hj => HL.out j (by omega))
              obtain ⟨b, hb⟩ : ∃ b, b = xs.getD p 0 := ⟨_, rfl⟩
              have hcp : wr.cell? ⟨g2, p, none⟩ = some (.int .i64 b) := by rw [HR.out.cell p hp, hb]
              have hfr := HR.out.frozen p
              have hbb : -4611686022722355200 ≤ b ∧ b ≤ 5764607527329202176 := by
                rw [hb, HBat.out p hp]
                have h1 := HPS.out _ (getD_mem (show p < ps.length by omega))
                have h2 := elem_le_tot ps (fun p hp => by have := HPS.out p hp; omega) _ (getD_mem (show p < ps.length by omega))
                have h3 := HQB.out _ (getD_mem (show p < qs.length by omega))
                rw [← HT.out] at h2
                omega
              have HBb := hide hb
              clear hb hke
              go_wp2
              go_ret
              have hst := HR.out.store p (b - T)
              refine ⟨p, ?_, rfl, ?_, grown_set HGR.out p _⟩
              · rw [← HBe.out]
                exact ⟨by omega, HB.out, fun j hj => HALL.out j (by omega)⟩
              · rw [← HBe.out]
                show Row _ base g2 n (xs.set p (xs.getD p 0 - T))
                rw [← HBb.out]
                exact hst
end Go.Proofs.Qxb6602328a
