import Derived.Test.Qxb6603449aSo6
namespace Go.Proofs.Qxb6603449a.SO
open Go.RowKit
set_option linter.unusedVariables false
set_option linter.unusedSimpArgs false

/-! ### partitionEqualOrdered -/
/-- Where the two scans stand: i from below, j from above. -/
structure Pe (a b i j : Nat) (d : Fn) (p : Int) : Prop where
  at_ : d a = p
  low : ∀ k, a < k → k < i → d k ≤ p
  high : ∀ k, j < k → k < b → p < d k
theorem pe_swap {a b i j : Nat} {d : Fn} {p : Int} (h : Pe a b i j d p) (hi : a < i) (hij : i < j) (hjb : j < b) (h1 : p < d i) (h2 : d j ≤ p) : Pe a b (i + 1) (j - 1) (sw d i j) p := by
  refine ⟨by rw [sw_out (by omega) (by omega)]; exact h.at_, fun k k1 k2 => ?_, fun k k1 k2 => ?_⟩
  · by_cases e : k = i
    · rw [e, sw_l]; exact h2
    · rw [sw_out e (by omega)]; exact h.low k k1 (by omega)
  · by_cases e : k = j
    · rw [e, sw_r]; exact h1
    · rw [sw_out (by omega) e]; exact h.high k (by omega) k2
def PePost (g n a b pv : Nat) (V : List Value) (d : Fn) (w : World) (e : Ending) (w' : World) : Prop := ∃ (i : Nat) (d' : Fn), e = .returned (.int .i64 (i : Int)) ∧ a < i ∧ i ≤ b ∧ Sw a b d d' ∧ Pe a b i (i - 1) d' (d pv) ∧ Sr w w' g n V d'

set_option maxHeartbeats 8000000 in
theorem parteq_any (g n cap a b pv : Nat) (V : List Value) (d : Fn) (w : World) (hab : a + 2 ≤ b) (hbn : b ≤ n) (hn : n ≤ 1099511627776) (hp1 : a ≤ pv) (hp2 : pv < b) (hr : rowD w g n V d) :
    Calls Try.prog 50 #[.slice (some ⟨g, 0, none⟩) n cap, .int .i64 a, .int .i64 b, .int .i64 pv] w fun e w' => PePost g n a b pv V d w e w' := by
  have H0 : Hid (Sr w w g n V d) := Sr.self hr
  obtain ⟨p, hp⟩ : ∃ p, d pv = p := ⟨_, rfl⟩
  have HP : Hid _ := hp
  have c1 := rowD_at hr pv (by omega)
  have c0 := rowD_at hr a (by omega)
  have f1 := rowD_fr hr pv
  have f0 := rowD_fr hr a
  obtain ⟨y, hy⟩ : ∃ y, d a = y := ⟨_, rfl⟩
  rw [hp] at c1
  rw [hy] at c0
  have HY : Hid _ := hy
  clear hr hp hy
  have k1 : (pv : Int) < (n : Int) := by omega
  have k2 : (a : Int) < (n : Int) := by omega
  have eb : (b : Int) - 1 = ((b - 1 : Nat) : Int) := by omega
  obtain ⟨b1, hb1⟩ : ∃ b1, b1 = b - 1 := ⟨_, rfl⟩
  rw [← hb1] at eb
  have HB1 : Hid _ := hb1
  clear hb1
  go_enter Try.func50, Try.ntmps50
  go_upto_region 1 with fail
  go_cut [24] from 11 to 24 (fun v wx => Hid (Sr w wx g n V (sw d a pv)))
  case first =>
    by_cases hap : a = pv
    · have hxy : p = y := by rw [← HP.out, ← HY.out, hap]
      subst hxy
      subst hap
      go_wp2
      go_region
      go_wp2_with fail
      go_meet
      case rel => exact H0.out.sw' 1 _ _ _ _ HP.out HY.out (by omega) (by omega)
    · have n1 : ¬ a = pv := hap
      have n2 : ¬ pv = a := by omega
      go_wp2
      go_region
      go_wp2_with fail
      go_meet
      case rel => exact H0.out.sw' 1 _ _ _ _ HP.out HY.out (by omega) (by omega)
  case rest =>
  have HS1 := hcut
  clear H0 c1 c0 f1 f0
  go_wp2
  go_loopw [9, 10] (fun vi vj wx => ∃ (i j : Nat) (e : Fn), vi = .int .i64 i ∧ vj = .int .i64 j ∧ a < i ∧ i ≤ j + 1 ∧ j < b ∧ Hid (Sw a b d e) ∧ Hid (Pe a b i j e p) ∧ Hid (Sr w wx g n V e)) (fun vi vj _ => (intOf vj + 1 - intOf vi).toNat)
  case atStart =>
    refine ⟨a + 1, b1, sw d a pv, by go_num, rfl, by omega, by have := HB1.out; omega, by have := HB1.out; omega, Sw.step a pv (Sw.refl _) (by omega) (by omega) (by omega) (by omega), ?_, HS1⟩
    exact ⟨by rw [sw_l]; exact HP.out, fun k k1 k2 => by omega, fun k k1 k2 => by have := HB1.out; omega⟩
  case round =>
    clear HS1
    obtain ⟨i0, j0, e, rfl, rfl, hi0, hij0, hj0, hse, hpe, hst⟩ := hrel
    go_wp2
    go_loopw [9] (fun vi wx => ∃ i : Nat, vi = .int .i64 i ∧ i0 ≤ i ∧ i ≤ j0 + 1 ∧ Hid (Pe a b i j0 e p) ∧ Hid (Sr w wx g n V e)) (fun vi _ => j0 + 1 - (intOf vi).toNat)
    case atStart => exact ⟨i0, rfl, Nat.le_refl _, hij0, hpe, hst⟩
    case round =>
      clear hpe hst
      obtain ⟨i, rfl, hi1, hi2, hpe, hst⟩ := hrel
      obtain ⟨t, ht⟩ : ∃ t, t = decide (i ≤ j0 ∧ ¬ p < e i) := ⟨_, rfl⟩
      have HT : Hid _ := ht
      clear ht
      have ca := rowD_at hst.out.row a (by omega)
      rw [hpe.out.at_] at ca
      go_upto_region 3 with fail
      go_cut [43] from 29 to 45 (fun v wx => v = .bool t ∧ Hid (Sr w wx g n V e))
      case first =>
        by_cases hij : i ≤ j0
        · have hij1 : decide ((i : Int) ≤ (j0 : Int)) = true := by simp only [decide_eq_true_eq]; omega
          have hij2 : decide (i ≤ j0) = true := by simp only [decide_eq_true_eq]; omega
          have ci := rowD_at hst.out.row i (by omega)
          obtain ⟨x, hx⟩ : ∃ x, e i = x := ⟨_, rfl⟩
          rw [hx] at ci
          have k3 : (i : Int) < (n : Int) := by omega
          have HL : Hid ((!t) = decide (p < x)) := by
            unfold Hid; rw [HT.out, hx]
            by_cases h : p < x
            · simp [h]
            · simp [h, hij]
          clear hx
          obtain ⟨t2, ht2⟩ : ∃ t2, t2 = !t := ⟨_, rfl⟩
          rw [← ht2] at HL
          have e2 : (!t2) = t := by rw [ht2]; simp
          have HE2 : Hid _ := e2
          clear ht2 e2 HT
          go_wp2
          go_quiet ((go_at_call 49; first | with_reducible exact less_q0 p x HL.out | with_reducible exact less_q p x HL.out))
          go_wp2_with fail
          go_meet
          case rel => exact ⟨by rw [← HE2.out], hst.out.drewN _⟩
        · have hij1 : decide ((i : Int) ≤ (j0 : Int)) = false := by simp only [decide_eq_false_iff_not]; omega
          have hij2 : decide (i ≤ j0) = false := by simp only [decide_eq_false_iff_not]; omega
          have et : t = false := by rw [HT.out]; simp [hij]
          subst et
          go_wp2
          go_quiet (fail)
          go_wp2_with fail
          go_meet
          case rel => exact ⟨rfl, hst.out.drewN _⟩
      case rest =>
      obtain ⟨rfl, hst⟩ := hcut
      clear ca
      cases t
      · have HEX : Hid (j0 < i ∨ p < e i) := by
          have h1 := HT.out
          unfold Hid
          by_cases h : i ≤ j0
          · right
            by_cases h2 : p < e i
            · exact h2
            · simp [h, h2] at h1
          · left; omega
        clear HT
        go_wp2
        go_loopw [10] (fun vj wx => ∃ j : Nat, vj = .int .i64 j ∧ j ≤ j0 ∧ i ≤ j + 1 ∧ Hid (Pe a b i j e p) ∧ Hid (Sr w wx g n V e)) (fun vj _ => (intOf vj).toNat)
        case atStart => exact ⟨j0, rfl, Nat.le_refl _, by omega, hpe, hst⟩
        case round =>
          clear hpe hst
          obtain ⟨j, rfl, hj1, hj2, hpe, hst⟩ := hrel
          obtain ⟨t, ht⟩ : ∃ t, t = decide (i ≤ j ∧ p < e j) := ⟨_, rfl⟩
          have HT : Hid _ := ht
          clear ht
          have ca := rowD_at hst.out.row a (by omega)
          rw [hpe.out.at_] at ca
          go_upto_region 5 with fail
          go_cut [59] from 46 to 61 (fun v wx => v = .bool t ∧ Hid (Sr w wx g n V e))
          case first =>
            by_cases hij : i ≤ j
            · have hij1 : decide ((i : Int) ≤ (j : Int)) = true := by simp only [decide_eq_true_eq]; omega
              have hij2 : decide (i ≤ j) = true := by simp only [decide_eq_true_eq]; omega
              have cj := rowD_at hst.out.row j (by omega)
              obtain ⟨x, hx⟩ : ∃ x, e j = x := ⟨_, rfl⟩
              rw [hx] at cj
              have k3 : (j : Int) < (n : Int) := by omega
              have HL : Hid (t = decide (p < x)) := by
                unfold Hid; rw [HT.out, hx]; simp [hij]
              clear hx HT
              go_wp2
              go_quiet ((go_at_call 49; first | with_reducible exact less_q0 p x HL.out | with_reducible exact less_q p x HL.out))
              go_wp2_with fail
              go_meet
              case rel => exact ⟨rfl, hst.out.drewN _⟩
            · have hij1 : decide ((i : Int) ≤ (j : Int)) = false := by simp only [decide_eq_false_iff_not]; omega
              have hij2 : decide (i ≤ j) = false := by simp only [decide_eq_false_iff_not]; omega
              have et : t = false := by rw [HT.out]; simp [hij]
              subst et
              go_wp2
              go_quiet (fail)
              go_wp2_with fail
              go_meet
              case rel => exact ⟨rfl, hst.out.drewN _⟩
          case rest =>
          obtain ⟨rfl, hst⟩ := hcut
          clear ca
          cases t
          · have HEY : Hid (j < i ∨ ¬ p < e j) := by
              have h1 := HT.out
              unfold Hid
              by_cases h : i ≤ j
              · right; intro h2; simp [h, h2] at h1
              · left; omega
            clear HT
            by_cases hij : j < i
            · have hij' : (j : Int) < (i : Int) := by omega
              have eij : j = i - 1 := by omega
              have HPE : Hid (Pe a b i (i - 1) e p) := by rw [← eij]; exact hpe
              go_wp2
              go_ret
              exact ⟨i, e, rfl, by omega, by omega, hse.out, by rw [HP.out]; exact HPE.out, hst.out⟩
            · have hij' : ¬ (j : Int) < (i : Int) := by omega
              have hpi : p < e i := by
                rcases HEX.out with h | h
                · omega
                · exact h
              have hpj : ¬ p < e j := by
                rcases HEY.out with h | h
                · omega
                · exact h
              have hne : i ≠ j := fun h => hpj (h ▸ hpi)
              have HPE : Hid (Pe a b (i + 1) (j - 1) (sw e i j) p) := pe_swap hpe.out (by omega) (by omega) (by omega) hpi (by omega)
              have HSE : Hid (Sw a b d (sw e i j)) := Sw.step i j hse.out (by omega) (by omega) (by omega) (by omega)
              have ci := rowD_at hst.out.row i (by omega)
              have cj := rowD_at hst.out.row j (by omega)
              have fi := rowD_fr hst.out.row i
              have fj := rowD_fr hst.out.row j
              obtain ⟨x, hx⟩ : ∃ x, e j = x := ⟨_, rfl⟩
              obtain ⟨y, hy⟩ : ∃ y, e i = y := ⟨_, rfl⟩
              rw [hx] at cj
              rw [hy] at ci
              have HX : Hid _ := hx
              have HYY : Hid _ := hy
              clear hx hy hpi hpj HEX HEY hpe
              have k3 : (i : Int) < (n : Int) := by omega
              have k4 : (j : Int) < (n : Int) := by omega
              have n1 : ¬ i = j := hne
              have n2 : ¬ j = i := fun h => hne h.symm
              clear hne
              go_wp2
              go_region
              go_wp2
              go_roundw
              case rel => exact ⟨i + 1, j - 1, sw e i j, by go_num, by congr 1; omega, by omega, by omega, by omega, HSE, HPE, hst.out.sw' _ _ _ _ _ HX.out HYY.out (by omega) (by omega)⟩
              case measure => simp [intOf]; omega
          · have h1 : i ≤ j ∧ p < e j := by have := HT.out; simpa using this.symm
            have HPE : Hid (Pe a b i (j - 1) e p) := ⟨hpe.out.at_, hpe.out.low, fun k k1 k2 => by
              by_cases h : k = j
              · rw [h]; exact h1.2
              · exact hpe.out.high k (by omega) k2⟩
            clear HT
            go_wp2
            go_roundw
            case rel => exact ⟨j - 1, by congr 1; omega, by omega, by omega, HPE, hst⟩
            case measure => simp [intOf]; omega
      · have h1 : i ≤ j0 ∧ ¬ p < e i := by have := HT.out; simpa using this.symm
        have HPE : Hid (Pe a b (i + 1) j0 e p) := ⟨hpe.out.at_, fun k k1 k2 => by
          by_cases h : k = i
          · rw [h]; have := h1.2; omega
          · exact hpe.out.low k k1 (by omega), hpe.out.high⟩
        clear HT
        go_wp2
        go_roundw
        case rel => exact ⟨i + 1, by go_num, by omega, by omega, HPE, hst⟩
        case measure => simp [intOf]; omega
end Go.Proofs.Qxb6603449a.SO
