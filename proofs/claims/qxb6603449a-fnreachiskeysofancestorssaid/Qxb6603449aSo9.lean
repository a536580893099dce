import Derived.Test.Qxb6603449aSo8
namespace Go.Proofs.Qxb6603449a.SO
open Go.RowKit
set_option linter.unusedVariables false
set_option linter.unusedSimpArgs false

/-! ### partialInsertionSortOrdered -/
def Floor (a b : Nat) (d : Fn) : Prop := 0 < a → ∀ k, a ≤ k → k < b → d (a - 1) ≤ d k
theorem Floor.on {a b : Nat} {d e : Fn} (h : Floor a b d) (hs : Sw a b d e) : Floor a b e := fun ha k k1 k2 => by
  have e1 : e (a - 1) = d (a - 1) := hs.out (by omega)
  rw [e1]
  exact hs.all (fun v => d (a - 1) ≤ v) (h ha) k k1 k2
theorem srt_keep {a i j k : Nat} {d : Fn} (h : Srt a i d) (hj : i ≤ j) (hk : i ≤ k) : Srt a i (sw d j k) := fun t h1 h2 => by
  rw [sw_out (by omega) (by omega), sw_out (by omega) (by omega)]; exact h t h1 h2
theorem ini_after {a i : Nat} {d : Fn} (h : Srt a i d) (hi : a < i) : InI a (i - 1) (i - 1) (sw d i (i - 1)) := by
  refine ⟨fun t h1 h2 h3 => ?_, fun _ h => by omega⟩
  rw [sw_out (by omega) (by omega), sw_out (by omega) (by omega)]
  exact h t h1 (by omega)
def PiPost (g n a b : Nat) (V : List Value) (d : Fn) (w : World) (e : Ending) (w' : World) : Prop := ∃ (t : Bool) (d' : Fn), e = .returned (.bool t) ∧ Sw a b d d' ∧ (t = true → Srt a b d') ∧ Sr w w' g n V d'

set_option maxRecDepth 100000 in
set_option maxHeartbeats 8000000 in
theorem partins_any (g n cap a b : Nat) (V : List Value) (d : Fn) (w : World) (hab : a + 2 ≤ b) (hbn : b ≤ n) (hn : n ≤ 1099511627776) (hfl : Floor a b d) (hr : rowD w g n V d) :
    Calls Try.prog 48 #[.slice (some ⟨g, 0, none⟩) n cap, .int .i64 a, .int .i64 b] w fun e w' => PiPost g n a b V d w e w' := by
  have H0 : Hid (Sr w w g n V d) := Sr.self hr
  have HFL : Hid (Floor a b d) := hfl
  clear hr hfl
  go_enter Try.func48, Try.ntmps48
  go_wp2
  go_loopw [7, 8] (fun vi vs wx => ∃ (i s : Nat) (e : Fn), vi = .int .i64 i ∧ vs = .int .i64 s ∧ a < i ∧ i ≤ b ∧ s ≤ 5 ∧ Hid (Sw a b d e ∧ Srt a i e) ∧ Hid (Sr w wx g n V e)) (fun _ vs _ => 5 - (intOf vs).toNat)
  case atStart => exact ⟨a + 1, 0, d, by go_num, rfl, by omega, by omega, by omega, ⟨Sw.refl _, fun t h1 h2 => by omega⟩, H0⟩
  case round =>
    clear H0
    obtain ⟨i0, s, e, rfl, rfl, hi0, hib0, hs5, hse0, hst0⟩ := hrel
    by_cases hs : s < 5
    · have hs' : (s : Int) < 5 := by omega
      go_wp2
      go_loopw [7] (fun vi wx => ∃ i : Nat, vi = .int .i64 i ∧ i0 ≤ i ∧ i ≤ b ∧ Hid (Srt a i e) ∧ Hid (Sr w wx g n V e)) (fun vi _ => b - (intOf vi).toNat)
      case atStart => exact ⟨i0, rfl, Nat.le_refl _, hib0, hse0.out.2, hst0⟩
      case round =>
        clear hst0
        obtain ⟨i, rfl, hi1, hi2, hsr, hst⟩ := hrel
        obtain ⟨t, ht⟩ : ∃ t, t = decide (i < b ∧ ¬ e i < e (i - 1)) := ⟨_, rfl⟩
        have HT : Hid _ := ht
        clear ht
        go_upto_region 5 with fail
        go_cut [32] from 17 to 34 (fun v wx => v = .bool t ∧ Hid (Sr w wx g n V e))
        case first =>
          by_cases hij : i < b
          · have hij1 : decide ((i : Int) < (b : Int)) = true := by simp only [decide_eq_true_eq]; omega
            have hij2 : decide (i < b) = true := by simp only [decide_eq_true_eq]; omega
            have ci := rowD_at hst.out.row i (by omega)
            have cj := rowD_at hst.out.row (i - 1) (by omega)
            obtain ⟨x, hx⟩ : ∃ x, e i = x := ⟨_, rfl⟩
            obtain ⟨y, hy⟩ : ∃ y, e (i - 1) = y := ⟨_, rfl⟩
            rw [hx] at ci
            rw [hy] at cj
            have k1 : (i : Int) < (n : Int) := by omega
            have k2 : ((i : Int) - 1).toNat = i - 1 := by omega
            have k3 : (0 : Int) ≤ (i : Int) - 1 := by omega
            have k4 : (1 : Int) ≤ (i : Int) := by omega
            have k5 : (i : Int) ≤ (n : Int) := by omega
            have k6 : (i : Int) - 1 < (n : Int) := by omega
            have k7 : i < n := by omega
            have k8 : i ≤ n := by omega
            have HL : Hid ((!t) = decide (x < y)) := by
              unfold Hid; rw [HT.out, hx, hy]
              by_cases h : x < y
              · simp [h]
              · simp [h, hij]
            clear hx hy
            obtain ⟨t2, ht2⟩ : ∃ t2, t2 = !t := ⟨_, rfl⟩
            rw [← ht2] at HL
            have e2 : (!t2) = t := by rw [ht2]; simp
            have HE2 : Hid _ := e2
            clear ht2 e2 HT
            go_wp2
            go_quiet ((go_at_call 49; first | with_reducible exact less_q0 x y HL.out | with_reducible exact less_q x y HL.out))
            go_wp2_with fail
            go_meet
            case rel => exact ⟨by rw [← HE2.out], hst.out.drewN _⟩
          · have hij1 : decide ((i : Int) < (b : Int)) = false := by simp only [decide_eq_false_iff_not]; omega
            have hij2 : decide (i < b) = false := by simp only [decide_eq_false_iff_not]; omega
            have et : t = false := by rw [HT.out]; simp [hij]
            subst et
            go_wp2
            go_quiet (fail)
            go_wp2_with fail
            go_meet
            case rel => exact ⟨rfl, hst.out.drewN _⟩
        case rest =>
        obtain ⟨rfl, hst⟩ := hcut
        cases t
        · by_cases hib : i = b
          · have hib' : ((i : Int) == (b : Int)) = true := by simp only [beq_iff_eq]; omega
            have HSB : Hid (Srt a b e) := by rw [← hib]; exact hsr
            have HIB : Hid _ := hib
            clear hib HT
            go_wp2
            go_ret
            exact ⟨true, e, rfl, hse0.out.1, fun _ => HSB.out, hst.out⟩
          · have hib' : ((i : Int) == (b : Int)) = false := by simp only [beq_eq_false_iff_ne]; omega
            have hilb : i < b := by omega
            have hlt : e i < e (i - 1) := by
              have h1 := HT.out
              by_cases h2 : e i < e (i - 1)
              · exact h2
              · simp [hilb, h2] at h1
            clear HT hib
            by_cases h50 : (b : Int) - (a : Int) < 50
            · clear hlt
              go_wp2
              go_ret
              exact ⟨false, e, rfl, hse0.out.1, (fun h => by cases h), hst.out⟩
            · have HIN : Hid (InI a (i - 1) (i - 1) (sw e i (i - 1))) := ini_after hsr.out (by omega)
              have HSE : Hid (Sw a b d (sw e i (i - 1))) := Sw.step i (i - 1) hse0.out.1 (by omega) (by omega) (by omega) (by omega)
              have ci := rowD_at hst.out.row i (by omega)
              have cj := rowD_at hst.out.row (i - 1) (by omega)
              have fi := rowD_fr hst.out.row i
              have fj := rowD_fr hst.out.row (i - 1)
              obtain ⟨x, hx⟩ : ∃ x, e i = x := ⟨_, rfl⟩
              obtain ⟨y, hy⟩ : ∃ y, e (i - 1) = y := ⟨_, rfl⟩
              rw [hx] at ci
              rw [hy] at cj
              have HX : Hid _ := hx
              have HY : Hid _ := hy
              clear hx hy hlt hsr hse0
              have k1 : (i : Int) < (n : Int) := by omega
              have k2 : ((i : Int) - 1).toNat = i - 1 := by omega
              have k3 : (0 : Int) ≤ (i : Int) - 1 := by omega
              have k4 : (1 : Int) ≤ (i : Int) := by omega
              have k5 : (i : Int) ≤ (n : Int) := by omega
              have k6 : (i : Int) - 1 < (n : Int) := by omega
              have k7 : i < n := by omega
              have k8 : i ≤ n := by omega
              have HS3 : Hid (Sr w (((wc.drewN 1).setCell ⟨g, i, none⟩ (.int .i32 y)).setCell ⟨g, i - 1, none⟩ (.int .i32 x)) g n V (sw e i (i - 1))) := hst.out.sw' 1 _ _ _ _ HY.out HX.out (by omega) (by omega)
              go_wp2
              go_region
              go_upto_if 61 with fail
              go_cut [9] from 13 to 132 (fun v wx => ∃ e2 : Fn, Hid (Sw a b d e2 ∧ Srt a i e2) ∧ Hid (Sr w wx g n V e2))
              case first =>
                by_cases h2 : (2 : Int) ≤ (i : Int) - (a : Int)
                · go_wp2
                  go_loopw [9] (fun vj wx => ∃ (j : Nat) (e2 : Fn), vj = .int .i64 j ∧ a ≤ j ∧ j ≤ i - 1 ∧ Hid (Sw a b d e2 ∧ InI a (i - 1) j e2) ∧ Hid (Sr w wx g n V e2)) (fun vj _ => (intOf vj).toNat)
                  case atStart => exact ⟨i - 1, _, by congr 1; omega, by omega, Nat.le_refl _, ⟨HSE.out, HIN.out⟩, HS3⟩
                  case round =>
                    clear HS3 HIN HSE ci cj fi fj
                    obtain ⟨j, e2, rfl, hj1, hj2, hin, hst⟩ := hrel
                    by_cases hj0 : (1 : Int) ≤ (j : Int)
                    · have cjj := rowD_at hst.out.row j (by omega)
                      have cj1 := rowD_at hst.out.row (j - 1) (by omega)
                      have fjj := rowD_fr hst.out.row j
                      have fj1 := rowD_fr hst.out.row (j - 1)
                      obtain ⟨u, hu⟩ : ∃ u, e2 j = u := ⟨_, rfl⟩
                      obtain ⟨v, hv⟩ : ∃ v, e2 (j - 1) = v := ⟨_, rfl⟩
                      rw [hu] at cjj
                      rw [hv] at cj1
                      have HU : Hid _ := hu
                      have HV : Hid _ := hv
                      obtain ⟨t, ht⟩ : ∃ t, t = decide (u < v) := ⟨_, rfl⟩
                      have HT : Hid _ := ht
                      clear hu hv ht
                      have q1 : (j : Int) < (n : Int) := by omega
                      have q2 : ((j : Int) - 1).toNat = j - 1 := by omega
                      have q3 : (0 : Int) ≤ (j : Int) - 1 := by omega
                      have q5 : (j : Int) ≤ (n : Int) := by omega
                      have q6 : (j : Int) - 1 < (n : Int) := by omega
                      have q7 : j < n := by omega
                      have q8 : j ≤ n := by omega
                      cases t
                      · have HSF : Hid (Sw a b d e2 ∧ Srt a i e2) := by
                          have h1 : ¬ u < v := by have := HT.out; simpa using this.symm
                          have h3 := hin.out.2.stop (Or.inr (by rw [HU.out, HV.out]; omega))
                          rw [show i - 1 + 1 = i from by omega] at h3
                          exact ⟨hin.out.1, h3⟩
                        go_wp2
                        go_quiet ((go_at_call 49; first | with_reducible exact less_q0 u v HT.out | with_reducible exact less_q u v HT.out))
                        go_wp2_with fail
                        go_meet
                        case rel => exact ⟨e2, HSF, hst.out.drewN _⟩
                      · have h1 : u < v := by have := HT.out; simpa using this.symm
                        have haj : a < j := by
                          by_cases h : j = a
                          · have fl := HFL.out.on hin.out.1 (by omega) j (by omega) (by omega)
                            rw [← h, HU.out, HV.out] at fl; omega
                          · omega
                        have HIN2 : Hid (InI a (i - 1) (j - 1) (sw e2 j (j - 1))) := hin.out.2.swap haj hj2 (by rw [HU.out, HV.out]; exact h1)
                        have HSE2 : Hid (Sw a b d (sw e2 j (j - 1))) := Sw.step j (j - 1) hin.out.1 (by omega) (by omega) (by omega) (by omega)
                        clear h1
                        go_wp2
                        go_quiet ((go_at_call 49; first | with_reducible exact less_q0 u v HT.out | with_reducible exact less_q u v HT.out))
                        go_wp2
                        go_region
                        go_wp2
                        go_roundw
                        case rel => exact ⟨j - 1, _, by congr 1; omega, by omega, by omega, ⟨HSE2.out, HIN2.out⟩, hst.out.sw' _ _ _ _ _ HV.out HU.out (by omega) (by omega)⟩
                        case measure => simp [intOf]; omega
                    · have HSF : Hid (Sw a b d e2 ∧ Srt a i e2) := by
                        have h3 := hin.out.2.stop (Or.inl (by omega))
                        rw [show i - 1 + 1 = i from by omega] at h3
                        exact ⟨hin.out.1, h3⟩
                      go_wp2_with fail
                      go_meet
                      case rel => exact ⟨e2, HSF, hst⟩
                · have HSF : Hid (Sw a b d (sw e i (i - 1)) ∧ Srt a i (sw e i (i - 1))) := ⟨HSE.out, fun t k1 k2 => by omega⟩
                  go_wp2_with fail
                  go_meet
                  case rel => exact ⟨_, HSF, HS3⟩
              case rest =>
              obtain ⟨e2, hse2, hst2⟩ := hcut
              clear HS3 HIN HSE ci cj fi fj hst
              by_cases h2 : (2 : Int) ≤ (b : Int) - (i : Int)
              · go_wp2
                go_loopw [10] (fun vj wx => ∃ (j : Nat) (e3 : Fn), vj = .int .i64 j ∧ i < j ∧ j ≤ b ∧ Hid (Sw a b d e3 ∧ Srt a i e3) ∧ Hid (Sr w wx g n V e3)) (fun vj _ => b - (intOf vj).toNat)
                case atStart => exact ⟨i + 1, e2, by go_num, by omega, by omega, hse2, hst2⟩
                case round =>
                  clear hse2 hst2
                  obtain ⟨j, e3, rfl, hj1, hj2, hse3, hst⟩ := hrel
                  by_cases hjb : j < b
                  · have hjb' : (j : Int) < (b : Int) := by omega
                    have cjj := rowD_at hst.out.row j (by omega)
                    have cj1 := rowD_at hst.out.row (j - 1) (by omega)
                    have fjj := rowD_fr hst.out.row j
                    have fj1 := rowD_fr hst.out.row (j - 1)
                    obtain ⟨u, hu⟩ : ∃ u, e3 j = u := ⟨_, rfl⟩
                    obtain ⟨v, hv⟩ : ∃ v, e3 (j - 1) = v := ⟨_, rfl⟩
                    rw [hu] at cjj
                    rw [hv] at cj1
                    have HU : Hid _ := hu
                    have HV : Hid _ := hv
                    obtain ⟨t, ht⟩ : ∃ t, t = decide (u < v) := ⟨_, rfl⟩
                    have HT : Hid _ := ht
                    clear hu hv ht
                    have q1 : (j : Int) < (n : Int) := by omega
                    have q2 : ((j : Int) - 1).toNat = j - 1 := by omega
                    have q3 : (0 : Int) ≤ (j : Int) - 1 := by omega
                    have q4 : (1 : Int) ≤ (j : Int) := by omega
                    have q5 : (j : Int) ≤ (n : Int) := by omega
                    have q6 : (j : Int) - 1 < (n : Int) := by omega
                    have q7 : j < n := by omega
                    have q8 : j ≤ n := by omega
                    cases t
                    · go_wp2
                      go_quiet ((go_at_call 49; first | with_reducible exact less_q0 u v HT.out | with_reducible exact less_q u v HT.out))
                      go_wp2
                      go_roundw
                      case rel => exact ⟨i, s + 1, e3, rfl, by go_num, by omega, by omega, by omega, hse3, hst.out.drewN _⟩
                      case measure => simp [intOf]; omega
                    · have HSE2 : Hid (Sw a b d (sw e3 j (j - 1)) ∧ Srt a i (sw e3 j (j - 1))) := ⟨Sw.step j (j - 1) hse3.out.1 (by omega) (by omega) (by omega) (by omega), srt_keep hse3.out.2 (by omega) (by omega)⟩
                      go_wp2
                      go_quiet ((go_at_call 49; first | with_reducible exact less_q0 u v HT.out | with_reducible exact less_q u v HT.out))
                      go_wp2
                      go_region
                      go_wp2
                      go_roundw
                      case rel => exact ⟨j + 1, _, by go_num, by omega, by omega, HSE2, hst.out.sw' _ _ _ _ _ HV.out HU.out (by omega) (by omega)⟩
                      case measure => simp [intOf]; omega
                  · have hjb' : ¬ (j : Int) < (b : Int) := by omega
                    go_wp2
                    go_roundw
                    case rel => exact ⟨i, s + 1, e3, rfl, by go_num, by omega, by omega, by omega, hse3, hst⟩
                    case measure => simp [intOf]; omega
              · go_wp2
                go_roundw
                case rel => exact ⟨i, s + 1, e2, rfl, by go_num, by omega, by omega, by omega, hse2, hst2⟩
                case measure => simp [intOf]; omega
        · have h1 : i < b ∧ ¬ e i < e (i - 1) := by have := HT.out; simpa using this.symm
          have HSB : Hid (Srt a (i + 1) e) := fun t2 k1 k2 => by
            by_cases h : t2 = i
            · rw [h]; have := h1.2; omega
            · exact hsr.out t2 k1 (by omega)
          clear HT
          go_wp2
          go_roundw
          case rel => exact ⟨i + 1, by go_num, by omega, by omega, HSB, hst⟩
          case measure => simp [intOf]; omega
    · have hs' : ¬ (s : Int) < 5 := by omega
      go_wp2
      go_ret
      exact ⟨false, e, rfl, hse0.out.1, (fun h => by cases h), hst0.out⟩
end Go.Proofs.Qxb6603449a.SO
