import Derived.Test.Qxb6603449aSo7
namespace Go.Proofs.Qxb6603449a.SO
open Go.RowKit
set_option linter.unusedVariables false
set_option linter.unusedSimpArgs false

/-! ### partitionOrdered -/
structure Pt (a b i j : Nat) (d : Fn) (p : Int) : Prop where
  at_ : d a = p
  low : ∀ k, a < k → k < i → d k < p
  high : ∀ k, j < k → k < b → p ≤ d k
theorem pt_swap {a b i j : Nat} {d : Fn} {p : Int} (h : Pt a b i j d p) (hi : a < i) (hij : i < j) (hjb : j < b) (h1 : ¬ d i < p) (h2 : d j < p) : Pt a b (i + 1) (j - 1) (sw d i j) p := by
  refine ⟨by rw [sw_out (by omega) (by omega)]; exact h.at_, fun k k1 k2 => ?_, fun k k1 k2 => ?_⟩
  · by_cases e : k = i
    · rw [e, sw_l]; exact h2
    · rw [sw_out e (by omega)]; exact h.low k k1 (by omega)
  · by_cases e : k = j
    · rw [e, sw_r]; omega
    · rw [sw_out (by omega) e]; exact h.high k (by omega) k2
def Split (a b m : Nat) (d : Fn) : Prop := (∀ k, a ≤ k → k < m → d k ≤ d m) ∧ (∀ k, m < k → k < b → d m ≤ d k)
theorem pt_fin {a b i j : Nat} {d : Fn} {p : Int} (h : Pt a b i j d p) (hi : i = j + 1) (ha : a ≤ j) : Split a b j (sw d j a) := by
  refine ⟨fun k k1 k2 => ?_, fun k k1 k2 => ?_⟩
  · rw [sw_l]
    by_cases e : k = a
    · rw [e, sw_r, h.at_]
      have := h.low j (by omega) (by omega); omega
    · rw [sw_out (by omega) e, h.at_]
      have := h.low k (by omega) (by omega); omega
  · rw [sw_l, sw_out (by omega) (by omega), h.at_]
    exact h.high k k1 k2
def PtPost (g n a b : Nat) (V : List Value) (d : Fn) (w : World) (e : Ending) (w' : World) : Prop := ∃ (m : Nat) (t : Bool) (d' : Fn), e = .returned (.tuple #[.int .i64 (m : Int), .bool t]) ∧ a ≤ m ∧ m < b ∧ Sw a b d d' ∧ Split a b m d' ∧ Sr w w' g n V d'

set_option maxRecDepth 100000 in
set_option maxHeartbeats 8000000 in
theorem part_any (g n cap a b pv : Nat) (V : List Value) (d : Fn) (w : World) (hab : a + 2 ≤ b) (hbn : b ≤ n) (hn : n ≤ 1099511627776) (hp1 : a ≤ pv) (hp2 : pv < b) (hr : rowD w g n V d) :
    Calls Try.prog 51 #[.slice (some ⟨g, 0, none⟩) n cap, .int .i64 a, .int .i64 b, .int .i64 pv] w fun e w' => PtPost g n a b V d w e w' := by
  have H0 : Hid (Sr w w g n V d) := Sr.self hr
  obtain ⟨p, hp⟩ : ∃ p, d pv = p := ⟨_, rfl⟩
  have HP : Hid _ := hp
  have c1 := rowD_at hr pv (by omega)
  have c0 := rowD_at hr a (by omega)
  have f1 := rowD_fr hr pv
  have f0 := rowD_fr hr a
  obtain ⟨y, hy⟩ : ∃ y, d a = y := ⟨_, rfl⟩
  rw [hp] at c1
  rw [hy] at c0
  have HY : Hid _ := hy
  clear hr hp hy
  have k1 : (pv : Int) < (n : Int) := by omega
  have k2 : (a : Int) < (n : Int) := by omega
  have eb : (b : Int) - 1 = ((b - 1 : Nat) : Int) := by omega
  obtain ⟨b1, hb1⟩ : ∃ b1, b1 = b - 1 := ⟨_, rfl⟩
  rw [← hb1] at eb
  have HB1 : Hid _ := hb1
  clear hb1
  go_enter Try.func51, Try.ntmps51
  go_upto_region 1 with fail
  go_cut [25] from 12 to 25 (fun v wx => Hid (Sr w wx g n V (sw d a pv)))
  case first =>
    by_cases hap : a = pv
    · have hxy : p = y := by rw [← HP.out, ← HY.out, hap]
      subst hxy
      subst hap
      go_wp2
      go_region
      go_wp2_with fail
      go_meet
      case rel => exact H0.out.sw' 1 _ _ _ _ HP.out HY.out (by omega) (by omega)
    · have n1 : ¬ a = pv := hap
      have n2 : ¬ pv = a := by omega
      go_wp2
      go_region
      go_wp2_with fail
      go_meet
      case rel => exact H0.out.sw' 1 _ _ _ _ HP.out HY.out (by omega) (by omega)
  case rest =>
  have HS1 := hcut
  clear H0 c1 c0 f1 f0
  have HSE0 : Hid (Sw a b d (sw d a pv)) := Sw.step a pv (Sw.refl _) (by omega) (by omega) (by omega) (by omega)
  have HPT0 : Hid (Pt a b (a + 1) b1 (sw d a pv) p) := ⟨by rw [sw_l]; exact HP.out, fun k k1 k2 => by omega, fun k k1 k2 => by have := HB1.out; omega⟩
  have hb1l : a < b1 := by have := HB1.out; omega
  have hb1b : b1 < b := by have := HB1.out; omega
  have HEB : Hid (b1 = b - 1) := HB1
  clear HB1 HP HY
  obtain ⟨e, he⟩ : ∃ e, e = sw d a pv := ⟨_, rfl⟩
  rw [← he] at HS1 HSE0 HPT0
  clear he
  go_wp2
  go_loopw [10] (fun vi wx => ∃ i : Nat, vi = .int .i64 i ∧ (a + 1) ≤ i ∧ i ≤ b1 + 1 ∧ Hid (Pt a b i b1 e p) ∧ Hid (Sr w wx g n V e)) (fun vi _ => b1 + 1 - (intOf vi).toNat)
  case atStart => exact ⟨(a + 1), by go_num, Nat.le_refl _, by omega, HPT0, HS1⟩
  case round =>
    clear HPT0 HS1
    obtain ⟨i, rfl, hi1, hi2, hpe, hst⟩ := hrel
    obtain ⟨t, ht⟩ : ∃ t, t = decide (i ≤ b1 ∧ e i < p) := ⟨_, rfl⟩
    have HT : Hid _ := ht
    clear ht
    have ca := rowD_at hst.out.row a (by omega)
    rw [hpe.out.at_] at ca
    go_upto_region 3 with fail
    go_cut [43] from 30 to 45 (fun v wx => v = .bool t ∧ Hid (Sr w wx g n V e))
    case first =>
      by_cases hij : i ≤ b1
      · have hij1 : decide ((i : Int) ≤ (b1 : Int)) = true := by simp only [decide_eq_true_eq]; omega
        have hij2 : decide (i ≤ b1) = true := by simp only [decide_eq_true_eq]; omega
        have ci := rowD_at hst.out.row i (by omega)
        obtain ⟨x, hx⟩ : ∃ x, e i = x := ⟨_, rfl⟩
        rw [hx] at ci
        have k3 : (i : Int) < (n : Int) := by omega
        have HL : Hid (t = decide (x < p)) := by
          unfold Hid; rw [HT.out, hx]; simp [hij]
        clear hx HT
        go_wp2
        go_quiet ((go_at_call 49; first | with_reducible exact less_q0 x p HL.out | with_reducible exact less_q x p HL.out))
        go_wp2_with fail
        go_meet
        case rel => exact ⟨rfl, hst.out.drewN _⟩
      · have hij1 : decide ((i : Int) ≤ (b1 : Int)) = false := by simp only [decide_eq_false_iff_not]; omega
        have hij2 : decide (i ≤ b1) = false := by simp only [decide_eq_false_iff_not]; omega
        have et : t = false := by rw [HT.out]; simp [hij]
        subst et
        go_wp2
        go_quiet (fail)
        go_wp2_with fail
        go_meet
        case rel => exact ⟨rfl, hst.out.drewN _⟩
    case rest =>
    obtain ⟨rfl, hst⟩ := hcut
    clear ca
    cases t
    · have HEX : Hid (b1 < i ∨ ¬ e i < p) := by
        have h1 := HT.out
        unfold Hid
        by_cases h : i ≤ b1
        · right; intro h2; simp [h, h2] at h1
        · left; omega
      clear HT
      go_wp2
      go_loopw [11] (fun vj wx => ∃ j : Nat, vj = .int .i64 j ∧ j ≤ b1 ∧ i ≤ j + 1 ∧ Hid (Pt a b i j e p) ∧ Hid (Sr w wx g n V e)) (fun vj _ => (intOf vj).toNat)
      case atStart => exact ⟨b1, rfl, Nat.le_refl _, by omega, hpe, hst⟩
      case round =>
        clear hpe hst
        obtain ⟨j, rfl, hj1, hj2, hpe, hst⟩ := hrel
        obtain ⟨t, ht⟩ : ∃ t, t = decide (i ≤ j ∧ ¬ e j < p) := ⟨_, rfl⟩
        have HT : Hid _ := ht
        clear ht
        have ca := rowD_at hst.out.row a (by omega)
        rw [hpe.out.at_] at ca
        go_upto_region 5 with fail
        go_cut [60] from 46 to 62 (fun v wx => v = .bool t ∧ Hid (Sr w wx g n V e))
        case first =>
          by_cases hij : i ≤ j
          · have hij1 : decide ((i : Int) ≤ (j : Int)) = true := by simp only [decide_eq_true_eq]; omega
            have hij2 : decide (i ≤ j) = true := by simp only [decide_eq_true_eq]; omega
            have cj := rowD_at hst.out.row j (by omega)
            obtain ⟨x, hx⟩ : ∃ x, e j = x := ⟨_, rfl⟩
            rw [hx] at cj
            have k3 : (j : Int) < (n : Int) := by omega
            have HL : Hid ((!t) = decide (x < p)) := by
              unfold Hid; rw [HT.out, hx]
              by_cases h : x < p
              · simp [h]
              · simp [h, hij]
            clear hx
            obtain ⟨t2, ht2⟩ : ∃ t2, t2 = !t := ⟨_, rfl⟩
            rw [← ht2] at HL
            have e2 : (!t2) = t := by rw [ht2]; simp
            have HE2 : Hid _ := e2
            clear ht2 e2 HT
            go_wp2
            go_quiet ((go_at_call 49; first | with_reducible exact less_q0 x p HL.out | with_reducible exact less_q x p HL.out))
            go_wp2_with fail
            go_meet
            case rel => exact ⟨by rw [← HE2.out], hst.out.drewN _⟩
          · have hij1 : decide ((i : Int) ≤ (j : Int)) = false := by simp only [decide_eq_false_iff_not]; omega
            have hij2 : decide (i ≤ j) = false := by simp only [decide_eq_false_iff_not]; omega
            have et : t = false := by rw [HT.out]; simp [hij]
            subst et
            go_wp2
            go_quiet (fail)
            go_wp2_with fail
            go_meet
            case rel => exact ⟨rfl, hst.out.drewN _⟩
        case rest =>
        obtain ⟨rfl, hst⟩ := hcut
        clear ca
        cases t
        · have HEY : Hid (j < i ∨ e j < p) := by
            have h1 := HT.out
            unfold Hid
            by_cases h : i ≤ j
            · right
              by_cases h2 : e j < p
              · exact h2
              · simp [h, h2] at h1
            · left; omega
          clear HT
          by_cases hij : j < i
          · have hij' : (j : Int) < (i : Int) := by omega
            have HSP : Hid (Split a b j (sw e j a)) := pt_fin hpe.out (by omega) (by omega)
            have HSE2 : Hid (Sw a b d (sw e j a)) := Sw.step j a HSE0.out (by omega) (by omega) (by omega) (by omega)
            have cj := rowD_at hst.out.row j (by omega)
            have ca := rowD_at hst.out.row a (by omega)
            have fj := rowD_fr hst.out.row j
            have fa := rowD_fr hst.out.row a
            obtain ⟨x, hx⟩ : ∃ x, e j = x := ⟨_, rfl⟩
            obtain ⟨y, hy⟩ : ∃ y, e a = y := ⟨_, rfl⟩
            rw [hx] at cj
            rw [hy] at ca
            have HX : Hid _ := hx
            have HYY : Hid _ := hy
            clear hpe
            have k4 : (j : Int) < (n : Int) := by omega
            by_cases hja : j = a
            · have hxy : x = y := by rw [← hx, ← hy, hja]
              subst hxy
              subst hja
              clear hx hy
              go_wp2
              go_region
              go_wp2
              go_ret2
              exact ⟨j, true, _, rfl, by omega, by omega, HSE2.out, HSP.out, hst.out.sw' _ _ _ _ _ HYY.out HX.out (by omega) (by omega)⟩
            · have n1 : ¬ j = a := hja
              have n2 : ¬ a = j := by omega
              clear hx hy hja
              go_wp2
              go_region
              go_wp2
              go_ret2
              exact ⟨j, true, _, rfl, by omega, by omega, HSE2.out, HSP.out, hst.out.sw' _ _ _ _ _ HYY.out HX.out (by omega) (by omega)⟩
          · have hij' : ¬ (j : Int) < (i : Int) := by omega
            have hpi : ¬ e i < p := by
              rcases HEX.out with h | h
              · omega
              · omega
            have hpj : e j < p := by
              rcases HEY.out with h | h
              · omega
              · omega
            have hne : i ≠ j := fun h => hpi (h ▸ hpj)
            have HPE : Hid (Pt a b (i + 1) (j - 1) (sw e i j) p) := pt_swap hpe.out (by omega) (by omega) (by omega) hpi hpj
            have HSE2 : Hid (Sw a b d (sw e i j)) := Sw.step i j HSE0.out (by omega) (by omega) (by omega) (by omega)
            have ci := rowD_at hst.out.row i (by omega)
            have cj := rowD_at hst.out.row j (by omega)
            have fi := rowD_fr hst.out.row i
            have fj := rowD_fr hst.out.row j
            obtain ⟨x, hx⟩ : ∃ x, e j = x := ⟨_, rfl⟩
            obtain ⟨y, hy⟩ : ∃ y, e i = y := ⟨_, rfl⟩
            rw [hx] at cj
            rw [hy] at ci
            have HX : Hid _ := hx
            have HYY : Hid _ := hy
            clear hx hy hpi hpj HEX HEY hpe
            have k3 : (i : Int) < (n : Int) := by omega
            have k4 : (j : Int) < (n : Int) := by omega
            have n1 : ¬ i = j := hne
            have n2 : ¬ j = i := fun h => hne h.symm
            clear hne
            have HS3 : Hid (Sr w (((wc.drewN 1).setCell ⟨g, i, none⟩ (.int .i32 x)).setCell ⟨g, j, none⟩ (.int .i32 y)) g n V (sw e i j)) := hst.out.sw' 1 _ _ _ _ HX.out HYY.out (by omega) (by omega)
            go_wp2
            go_region
            go_wp2
            go_loopw [10, 11] (fun vi vj wx => ∃ (i j : Nat) (e2 : Fn), vi = .int .i64 i ∧ vj = .int .i64 j ∧ a < i ∧ i ≤ j + 1 ∧ j < b ∧ Hid (Sw a b d e2) ∧ Hid (Pt a b i j e2 p) ∧ Hid (Sr w wx g n V e2)) (fun vi vj _ => (intOf vj + 1 - intOf vi).toNat)
            case atStart => exact ⟨i + 1, j - 1, sw e i j, by go_num, by congr 1; omega, by omega, by omega, by omega, HSE2, HPE, HS3⟩
            case round =>
              clear HS3 HPE HSE2
              obtain ⟨i0, j0, e2, rfl, rfl, hi0, hij0, hj0, hse, hpe0, hst0⟩ := hrel
              go_wp2
              go_loopw [10] (fun vi wx => ∃ i : Nat, vi = .int .i64 i ∧ i0 ≤ i ∧ i ≤ j0 + 1 ∧ Hid (Pt a b i j0 e2 p) ∧ Hid (Sr w wx g n V e2)) (fun vi _ => j0 + 1 - (intOf vi).toNat)
              case atStart => exact ⟨i0, rfl, Nat.le_refl _, by omega, hpe0, hst0⟩
              case round =>
                clear hpe0 hst0
                obtain ⟨i, rfl, hi1, hi2, hpe, hst⟩ := hrel
                obtain ⟨t, ht⟩ : ∃ t, t = decide (i ≤ j0 ∧ e2 i < p) := ⟨_, rfl⟩
                have HT : Hid _ := ht
                clear ht
                have ca := rowD_at hst.out.row a (by omega)
                rw [hpe.out.at_] at ca
                go_upto_region 13 with fail
                go_cut [112] from 99 to 114 (fun v wx => v = .bool t ∧ Hid (Sr w wx g n V e2))
                case first =>
                  by_cases hij : i ≤ j0
                  · have hij1 : decide ((i : Int) ≤ (j0 : Int)) = true := by simp only [decide_eq_true_eq]; omega
                    have hij2 : decide (i ≤ j0) = true := by simp only [decide_eq_true_eq]; omega
                    have ci := rowD_at hst.out.row i (by omega)
                    obtain ⟨x, hx⟩ : ∃ x, e2 i = x := ⟨_, rfl⟩
                    rw [hx] at ci
                    have k3 : (i : Int) < (n : Int) := by omega
                    have HL : Hid (t = decide (x < p)) := by
                      unfold Hid; rw [HT.out, hx]; simp [hij]
                    clear hx HT
                    go_wp2
                    go_quiet ((go_at_call 49; first | with_reducible exact less_q0 x p HL.out | with_reducible exact less_q x p HL.out))
                    go_wp2_with fail
                    go_meet
                    case rel => exact ⟨rfl, hst.out.drewN _⟩
                  · have hij1 : decide ((i : Int) ≤ (j0 : Int)) = false := by simp only [decide_eq_false_iff_not]; omega
                    have hij2 : decide (i ≤ j0) = false := by simp only [decide_eq_false_iff_not]; omega
                    have et : t = false := by rw [HT.out]; simp [hij]
                    subst et
                    go_wp2
                    go_quiet (fail)
                    go_wp2_with fail
                    go_meet
                    case rel => exact ⟨rfl, hst.out.drewN _⟩
                case rest =>
                obtain ⟨rfl, hst⟩ := hcut
                clear ca
                cases t
                · have HEX : Hid (j0 < i ∨ ¬ e2 i < p) := by
                    have h1 := HT.out
                    unfold Hid
                    by_cases h : i ≤ j0
                    · right; intro h2; simp [h, h2] at h1
                    · left; omega
                  clear HT
                  go_wp2
                  go_loopw [11] (fun vj wx => ∃ j : Nat, vj = .int .i64 j ∧ j ≤ j0 ∧ i ≤ j + 1 ∧ Hid (Pt a b i j e2 p) ∧ Hid (Sr w wx g n V e2)) (fun vj _ => (intOf vj).toNat)
                  case atStart => exact ⟨j0, rfl, Nat.le_refl _, by omega, hpe, hst⟩
                  case round =>
                    clear hpe hst
                    obtain ⟨j, rfl, hj1, hj2, hpe, hst⟩ := hrel
                    obtain ⟨t, ht⟩ : ∃ t, t = decide (i ≤ j ∧ ¬ e2 j < p) := ⟨_, rfl⟩
                    have HT : Hid _ := ht
                    clear ht
                    have ca := rowD_at hst.out.row a (by omega)
                    rw [hpe.out.at_] at ca
                    go_upto_region 15 with fail
                    go_cut [129] from 115 to 131 (fun v wx => v = .bool t ∧ Hid (Sr w wx g n V e2))
                    case first =>
                      by_cases hij : i ≤ j
                      · have hij1 : decide ((i : Int) ≤ (j : Int)) = true := by simp only [decide_eq_true_eq]; omega
                        have hij2 : decide (i ≤ j) = true := by simp only [decide_eq_true_eq]; omega
                        have cj := rowD_at hst.out.row j (by omega)
                        obtain ⟨x, hx⟩ : ∃ x, e2 j = x := ⟨_, rfl⟩
                        rw [hx] at cj
                        have k3 : (j : Int) < (n : Int) := by omega
                        have HL : Hid ((!t) = decide (x < p)) := by
                          unfold Hid; rw [HT.out, hx]
                          by_cases h : x < p
                          · simp [h]
                          · simp [h, hij]
                        clear hx
                        obtain ⟨t2, ht2⟩ : ∃ t2, t2 = !t := ⟨_, rfl⟩
                        rw [← ht2] at HL
                        have e2 : (!t2) = t := by rw [ht2]; simp
                        have HE2 : Hid _ := e2
                        clear ht2 e2 HT
                        go_wp2
                        go_quiet ((go_at_call 49; first | with_reducible exact less_q0 x p HL.out | with_reducible exact less_q x p HL.out))
                        go_wp2_with fail
                        go_meet
                        case rel => exact ⟨by rw [← HE2.out], hst.out.drewN _⟩
                      · have hij1 : decide ((i : Int) ≤ (j : Int)) = false := by simp only [decide_eq_false_iff_not]; omega
                        have hij2 : decide (i ≤ j) = false := by simp only [decide_eq_false_iff_not]; omega
                        have et : t = false := by rw [HT.out]; simp [hij]
                        subst et
                        go_wp2
                        go_quiet (fail)
                        go_wp2_with fail
                        go_meet
                        case rel => exact ⟨rfl, hst.out.drewN _⟩
                    case rest =>
                    obtain ⟨rfl, hst⟩ := hcut
                    clear ca
                    cases t
                    · have HEY : Hid (j < i ∨ e2 j < p) := by
                        have h1 := HT.out
                        unfold Hid
                        by_cases h : i ≤ j
                        · right
                          by_cases h2 : e2 j < p
                          · exact h2
                          · simp [h, h2] at h1
                        · left; omega
                      clear HT
                      by_cases hij : j < i
                      · have hij' : (j : Int) < (i : Int) := by omega
                        have HSP : Hid (Split a b j (sw e2 j a)) := pt_fin hpe.out (by omega) (by omega)
                        have HSE2 : Hid (Sw a b d (sw e2 j a)) := Sw.step j a hse.out (by omega) (by omega) (by omega) (by omega)
                        have cj := rowD_at hst.out.row j (by omega)
                        have ca := rowD_at hst.out.row a (by omega)
                        have fj := rowD_fr hst.out.row j
                        have fa := rowD_fr hst.out.row a
                        obtain ⟨x, hx⟩ : ∃ x, e2 j = x := ⟨_, rfl⟩
                        obtain ⟨y, hy⟩ : ∃ y, e2 a = y := ⟨_, rfl⟩
                        rw [hx] at cj
                        rw [hy] at ca
                        have HX : Hid _ := hx
                        have HYY : Hid _ := hy
                        clear hpe
                        have k4 : (j : Int) < (n : Int) := by omega
                        by_cases hja : j = a
                        · have hxy : x = y := by rw [← hx, ← hy, hja]
                          subst hxy
                          subst hja
                          clear hx hy
                          go_wp2
                          go_region
                          go_wp2
                          go_ret2
                          exact ⟨j, false, _, rfl, by omega, by omega, HSE2.out, HSP.out, hst.out.sw' _ _ _ _ _ HYY.out HX.out (by omega) (by omega)⟩
                        · have n1 : ¬ j = a := hja
                          have n2 : ¬ a = j := by omega
                          clear hx hy hja
                          go_wp2
                          go_region
                          go_wp2
                          go_ret2
                          exact ⟨j, false, _, rfl, by omega, by omega, HSE2.out, HSP.out, hst.out.sw' _ _ _ _ _ HYY.out HX.out (by omega) (by omega)⟩
                      · have hij' : ¬ (j : Int) < (i : Int) := by omega
                        have hpi : ¬ e2 i < p := by
                          rcases HEX.out with h | h
                          · omega
                          · omega
                        have hpj : e2 j < p := by
                          rcases HEY.out with h | h
                          · omega
                          · omega
                        have hne : i ≠ j := fun h => hpi (h ▸ hpj)
                        have HPE : Hid (Pt a b (i + 1) (j - 1) (sw e2 i j) p) := pt_swap hpe.out (by omega) (by omega) (by omega) hpi hpj
                        have HSE2 : Hid (Sw a b d (sw e2 i j)) := Sw.step i j hse.out (by omega) (by omega) (by omega) (by omega)
                        have ci := rowD_at hst.out.row i (by omega)
                        have cj := rowD_at hst.out.row j (by omega)
                        have fi := rowD_fr hst.out.row i
                        have fj := rowD_fr hst.out.row j
                        obtain ⟨x, hx⟩ : ∃ x, e2 j = x := ⟨_, rfl⟩
                        obtain ⟨y, hy⟩ : ∃ y, e2 i = y := ⟨_, rfl⟩
                        rw [hx] at cj
                        rw [hy] at ci
                        have HX : Hid _ := hx
                        have HYY : Hid _ := hy
                        clear hx hy hpi hpj HEX HEY hpe
                        have k3 : (i : Int) < (n : Int) := by omega
                        have k4 : (j : Int) < (n : Int) := by omega
                        have n1 : ¬ i = j := hne
                        have n2 : ¬ j = i := fun h => hne h.symm
                        clear hne
                        go_wp2
                        go_region
                        go_wp2
                        go_roundw
                        case rel => exact ⟨i + 1, j - 1, sw e2 i j, by go_num, by congr 1; omega, by omega, by omega, by omega, HSE2, HPE, hst.out.sw' _ _ _ _ _ HX.out HYY.out (by omega) (by omega)⟩
                        case measure => simp [intOf]; omega
                    · have h1 : i ≤ j ∧ ¬ e2 j < p := by have := HT.out; simpa using this.symm
                      have HPE : Hid (Pt a b i (j - 1) e2 p) := ⟨hpe.out.at_, hpe.out.low, fun k k1 k2 => by
                        by_cases h : k = j
                        · rw [h]; have := h1.2; omega
                        · exact hpe.out.high k (by omega) k2⟩
                      clear HT
                      go_wp2
                      go_roundw
                      case rel => exact ⟨j - 1, by congr 1; omega, by omega, by omega, HPE, hst⟩
                      case measure => simp [intOf]; omega
                · have h1 : i ≤ j0 ∧ e2 i < p := by have := HT.out; simpa using this.symm
                  have HPE : Hid (Pt a b (i + 1) j0 e2 p) := ⟨hpe.out.at_, fun k k1 k2 => by
                    by_cases h : k = i
                    · rw [h]; exact h1.2
                    · exact hpe.out.low k k1 (by omega), hpe.out.high⟩
                  clear HT
                  go_wp2
                  go_roundw
                  case rel => exact ⟨i + 1, by go_num, by omega, by omega, HPE, hst⟩
                  case measure => simp [intOf]; omega
        · have h1 : i ≤ j ∧ ¬ e j < p := by have := HT.out; simpa using this.symm
          have HPE : Hid (Pt a b i (j - 1) e p) := ⟨hpe.out.at_, hpe.out.low, fun k k1 k2 => by
            by_cases h : k = j
            · rw [h]; have := h1.2; omega
            · exact hpe.out.high k (by omega) k2⟩
          clear HT
          go_wp2
          go_roundw
          case rel => exact ⟨j - 1, by congr 1; omega, by omega, by omega, HPE, hst⟩
          case measure => simp [intOf]; omega
    · have h1 : i ≤ b1 ∧ e i < p := by have := HT.out; simpa using this.symm
      have HPE : Hid (Pt a b (i + 1) b1 e p) := ⟨hpe.out.at_, fun k k1 k2 => by
        by_cases h : k = i
        · rw [h]; exact h1.2
        · exact hpe.out.low k k1 (by omega), hpe.out.high⟩
      clear HT
      go_wp2
      go_roundw
      case rel => exact ⟨i + 1, by go_num, by omega, by omega, HPE, hst⟩
      case measure => simp [intOf]; omega
end Go.Proofs.Qxb6603449a.SO
