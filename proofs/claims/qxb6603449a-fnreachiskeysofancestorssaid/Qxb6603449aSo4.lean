import Derived.Test.Qxb6603449aSo3
namespace Go.Proofs.Qxb6603449a.SO
open Go.RowKit
set_option linter.unusedVariables false
set_option linter.unusedSimpArgs false

/-! ### heapSortOrdered -/
set_option maxHeartbeats 8000000 in
theorem heap_any (g n cap a b : Nat) (V : List Value) (d : Fn) (w : World) (hab : a < b) (hbn : b ≤ n) (hn : n ≤ 1099511627776) (hr : rowD w g n V d) :
    Calls Try.prog 44 #[.slice (some ⟨g, 0, none⟩) n cap, .int .i64 a, .int .i64 b] w fun e w' => SoPost g n a b V d w e w' := by
  have H0 : Hid (Sr w w g n V d) := Sr.self hr
  clear hr
  obtain ⟨h, hh⟩ : ∃ h, h = b - a := ⟨_, rfl⟩
  have hbi : (b : Int) - (a : Int) = (h : Int) := by omega
  have HB : Hid (b = a + h) := by unfold Hid; omega
  have hah : a + h ≤ n := by omega
  obtain ⟨q, hq⟩ : ∃ q, q = (h - 1) / 2 := ⟨_, rfl⟩
  have hqi : ((h : Int) - 1).tdiv 2 = (q : Int) := by rw [Int.tdiv_eq_ediv_of_nonneg (by omega)]; omega
  have HQ : Hid (q = (h - 1) / 2 ∧ 1 ≤ h) := by unfold Hid; omega
  clear hh hq
  go_enter Try.func44, Try.ntmps44
  go_wp2
  go_loopw [9] (fun vi wx => ∃ (I : Int) (k : Nat) (e : Fn), vi = .int .i64 I ∧ I + 1 = (k : Int) ∧ k ≤ h + 1 ∧ Hid (Sw a b d e) ∧ Hid (Hp e a k h) ∧ Hid (Sr w wx g n V e)) (fun vi _ => (intOf vi + 1).toNat)
  case atStart =>
    have hq := HQ.out
    refine ⟨q, q + 1, d, by rw [show wrap64 (q : Int) = (q : Int) from by unfold wrap64; omega], by omega, by omega, Sw.refl _, ?_, H0⟩
    unfold Hid Hp Kid; intro i c h1 h2 h3; omega
  case round =>
    clear H0
    obtain ⟨I, k, e, rfl, hk, hkh, hse, hhp, hst⟩ := hrel
    by_cases hI : (0 : Int) ≤ I
    · obtain ⟨i, rfl⟩ : ∃ i : Nat, I = (i : Int) := ⟨I.toNat, by omega⟩
      have ek : k = i + 1 := by omega
      subst ek
      have hhp2 : Hp e a (i + 1) h := hhp.out
      have HHP : Hid _ := hhp2
      clear hhp hhp2 hk
      have hI' : decide ((0 : Int) ≤ (i : Int)) = true := by simp
      by_cases hih : i ≤ h
      · go_wp2_with fail
        refine (sift_any g n cap a i h V e wr hih (by omega) hn hst.out.row HHP.out).mono ?_
        rintro e2 w2 ⟨d2, rfl, hs2, hp2, hr2⟩
        have HS2 : Hid (Sw a b d d2) := hse.out.trans (hs2.wide (by omega) (by have := HB.out; omega))
        have HP2 : Hid _ := hp2
        have HR2 : Hid (Sr w w2 g n V d2) := hst.out.on hr2
        clear hs2 hp2 hr2
        go_wp2
        go_roundw
        case rel => exact ⟨(i : Int) - 1, i, d2, rfl, by omega, by omega, HS2, HP2, HR2⟩
        case measure => simp [intOf]
      · exfalso; omega
    · have hI' : decide ((0 : Int) ≤ I) = false := decide_eq_false hI
      have hk0 : k = 0 := by omega
      have HH : Hid (Hp e a 0 h) := by
        have h1 := hhp.out
        rw [hk0] at h1
        exact h1
      clear hhp hk0 hk
      go_wp2
      go_loopw [10] (fun vi wx => ∃ (I : Int) (k : Nat) (e : Fn), vi = .int .i64 I ∧ I + 1 = (k : Int) ∧ k ≤ h ∧ Hid (Sw a b d e) ∧ Hid (Hp e a 0 k ∧ Srt (a + k) b e ∧ ∀ x y, x < k → k ≤ y → y < h → e (a + x) ≤ e (a + y)) ∧ Hid (Sr w wx g n V e)) (fun vi _ => (intOf vi + 1).toNat)
      case atStart => exact ⟨_, h, e, rfl, by omega, Nat.le_refl _, hse, ⟨HH.out, (fun i h1 h2 => by have := HB.out; omega), fun x y h1 h2 h3 => by omega⟩, hst⟩
      case round =>
        clear hse HH hst hI hI' hkh
        obtain ⟨I, k, e, rfl, hk, hkh, hse, hhp, hst⟩ := hrel
        by_cases hI : (0 : Int) ≤ I
        · obtain ⟨i, rfl⟩ : ∃ i : Nat, I = (i : Int) := ⟨I.toNat, by omega⟩
          have ek : k = i + 1 := by omega
          subst ek
          have hI' : decide ((0 : Int) ≤ (i : Int)) = true := by simp
          have c1 := rowD_at hst.out.row (a + i) (by omega)
          have c0 := rowD_at hst.out.row a (by omega)
          have f1 := rowD_fr hst.out.row (a + i)
          have f0 := rowD_fr hst.out.row a
          obtain ⟨x, hx⟩ : ∃ x, e (a + i) = x := ⟨_, rfl⟩
          obtain ⟨y, hy⟩ : ∃ y, e a = y := ⟨_, rfl⟩
          rw [hx] at c1
          rw [hy] at c0
          have HX : Hid _ := hx
          have HY : Hid _ := hy
          clear hx hy hk
          have k1 : (a : Int) + (i : Int) < (n : Int) := by omega
          have k2 : a + i < n := by omega
          have k3 : (a : Int) < (n : Int) := by omega
          have k4 : a < n := by omega
          have k5 : ((a : Int) + (i : Int)).toNat = a + i := by omega
          have k7 : IntKind.i64.wrap ((a : Int) + (i : Int)) = (a : Int) + (i : Int) := by rw [IntKind.wrap_i64]; omega
          have k10 : (0 : Int) ≤ (a : Int) + (i : Int) := by omega
          have HPI : Hid (Hp (sw e a (a + i)) a 1 i) := by
            unfold Hid Hp
            intro p c h1 h2 h3
            unfold Kid at h2
            rw [sw_out (by omega) (by omega), sw_out (by omega) (by omega)]
            exact hhp.out.1 p c (by omega) h2 (by omega)
          have HSE : Hid (Sw a b d (sw e a (a + i))) := Sw.step _ _ hse.out (by omega) (by have := HB.out; omega) (by omega) (by have := HB.out; omega)
          go_upto_region 10 with fail
          go_cut [50] from 29 to 55 (fun v wx => Hid (Sr w wx g n V (sw e a (a + i))))
          case first =>
            rcases Nat.eq_zero_or_pos i with rfl | hip
            · simp only [Nat.add_zero] at c1 HX
              go_wp2
              go_region
              go_wp2_with fail
              go_meet
              case rel => exact hst.out.sw' 1 a a _ _ HY.out HY.out (by omega) (by omega)
            · have n1 : ¬ a = a + i := by omega
              have n2 : ¬ a + i = a := by omega
              go_wp2
              go_region
              go_wp2_with fail
              go_meet
              case rel => exact hst.out.sw' 1 a (a + i) _ _ HX.out HY.out (by omega) (by omega)
          case rest =>
          have HSR := hcut
          go_wp2_with fail
          refine (sift_any g n cap a 0 i V (sw e a (a + i)) _ (by omega) (by omega) hn HSR.out.row HPI.out).mono ?_
          rintro e2 w2 ⟨d2, rfl, hs2, hp2, hr2⟩
          have HS2 : Hid (Sw a b d d2) := HSE.out.trans (hs2.wide (by omega) (by have := HB.out; omega))
          have HR2 : Hid (Sr w w2 g n V d2) := HSR.out.on hr2
          have HP2 : Hid (Hp d2 a 0 i ∧ Srt (a + i) b d2 ∧ ∀ x y, x < i → i ≤ y → y < h → d2 (a + x) ≤ d2 (a + y)) := by
            have hB := HB.out
            have top := hhp.out.1.top
            have old := hhp.out.2.2
            have out : ∀ p, i ≤ p → d2 (a + p) = sw e a (a + i) (a + p) := fun p hp => hs2.out (by omega)
            have far : ∀ p, i < p → d2 (a + p) = e (a + p) := fun p hp => by rw [out p (by omega), sw_out (by omega) (by omega)]
            have at_i : d2 (a + i) = e a := by rw [out i (Nat.le_refl _), sw_r]
            have low : ∀ p, a ≤ p → p < a + i → sw e a (a + i) p ≤ e a := fun p h1 h2 => by
              by_cases e0 : p = a
              · rw [e0, sw_l]; exact top i (by omega)
              · rw [sw_out e0 (by omega)]
                have := top (p - a) (by omega)
                rw [show a + (p - a) = p from by omega] at this
                exact this
            have low2 : ∀ p, a + 0 ≤ p → p < a + i → d2 p ≤ e a := hs2.all (fun v => v ≤ e a) (fun p h1 h2 => low p (by omega) h2)
            refine ⟨hp2, ?_, ?_⟩
            · intro p h1 h2
              by_cases e1 : p = a + i + 1
              · rw [e1, show a + i + 1 - 1 = a + i from by omega, at_i, show a + i + 1 = a + (i + 1) from by omega, far (i + 1) (by omega)]
                have := old 0 (i + 1) (by omega) (by omega) (by omega)
                exact this
              · have q1 := far (p - a) (by omega)
                have q2 := far (p - 1 - a) (by omega)
                rw [show a + (p - a) = p from by omega] at q1
                rw [show a + (p - 1 - a) = p - 1 from by omega] at q2
                rw [q1, q2]
                exact hhp.out.2.1 p (by omega) h2
            · intro x y h1 h2 h3
              have l := low2 (a + x) (by omega) (by omega)
              by_cases e1 : y = i
              · rw [e1, at_i]; exact l
              · rw [far y (by omega)]
                have := old 0 y (by omega) (by omega) h3
                exact Int.le_trans l this
          clear hs2 hp2 hr2 hhp
          go_wp2
          go_roundw
          case rel => exact ⟨(i : Int) - 1, i, d2, rfl, by omega, by omega, HS2, HP2, HR2⟩
          case measure => simp [intOf]
        · have hI' : decide ((0 : Int) ≤ I) = false := decide_eq_false hI
          have hk0 : k = 0 := by omega
          have HF : Hid (Srt a b e) := by
            have h1 := hhp.out.2.1
            rw [hk0] at h1
            exact h1
          clear hhp
          go_wp2
          go_end0
          exact ⟨e, rfl, hse.out, HF.out, hst.out⟩
end Go.Proofs.Qxb6603449a.SO
