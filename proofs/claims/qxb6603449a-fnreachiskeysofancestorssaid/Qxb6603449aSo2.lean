import Derived.Test.Qxb6603449aSo1
namespace Go.Proofs.Qxb6603449a.SO
open Go.RowKit
set_option linter.unusedVariables false
set_option linter.unusedSimpArgs false

/-! ### insertionSortOrdered -/
structure InI (a i j : Nat) (d : Fn) : Prop where
  ok : ∀ t, a < t → t ≤ i → t ≠ j → d (t - 1) ≤ d t
  mid : a < j → j < i → d (j - 1) ≤ d (j + 1)
theorem ini_start {a i : Nat} {d : Fn} (h : Srt a i d) : InI a i i d := ⟨fun t h1 h2 h3 => h t h1 (by omega), fun _ h => by omega⟩
theorem InI.stop {a i j : Nat} {d : Fn} (h : InI a i j d) (hs : j ≤ a ∨ d (j - 1) ≤ d j) : Srt a (i + 1) d := fun t h1 h2 => by
  by_cases e : t = j
  · rcases hs with hs | hs
    · omega
    · rw [e]; exact hs
  · exact h.ok t h1 (by omega) e
theorem InI.swap {a i j : Nat} {d : Fn} (h : InI a i j d) (hj : a < j) (hji : j ≤ i) (hlt : d j < d (j - 1)) : InI a i (j - 1) (sw d j (j - 1)) := by
  refine ⟨fun t h1 h2 h3 => ?_, fun h1 h2 => ?_⟩
  · by_cases e1 : t = j
    · rw [e1, sw_l, sw_r]; omega
    · by_cases e2 : t = j + 1
      · rw [e2, sw_out (k := j + 1) (by omega) (by omega), show j + 1 - 1 = j from by omega, sw_l]
        exact h.mid hj (by omega)
      · rw [sw_out (k := t) e1 (by omega), sw_out (k := t - 1) (by omega) (by omega)]
        exact h.ok t h1 h2 e1
  · rw [sw_out (k := j - 1 - 1) (by omega) (by omega), show j - 1 + 1 = j from by omega, sw_l]
    exact h.ok (j - 1) h1 (by omega) (by omega)
def SoPost (g n a b : Nat) (V : List Value) (d : Fn) (w : World) (e : Ending) (w' : World) : Prop := ∃ d', e = .returned (.tuple #[]) ∧ Sw a b d d' ∧ Srt a b d' ∧ Sr w w' g n V d'

set_option maxHeartbeats 4000000 in
theorem ins_any (g n cap a b : Nat) (V : List Value) (d : Fn) (w : World) (hab : a ≤ b) (hbn : b ≤ n) (hn : n ≤ 1099511627776) (hr : rowD w g n V d) :
    Calls Try.prog 43 #[.slice (some ⟨g, 0, none⟩) n cap, .int .i64 a, .int .i64 b] w fun e w' => SoPost g n a b V d w e w' := by
  have H0 : Hid (Sr w w g n V d) := Sr.self hr
  clear hr
  go_enter Try.func43, Try.ntmps43
  go_wp2
  go_loopw [6] (fun vi wx => ∃ (i : Nat) (e : Fn), vi = .int .i64 i ∧ a < i ∧ i ≤ b + 1 ∧ Hid (Sw a b d e ∧ Srt a i e) ∧ Hid (Sr w wx g n V e)) (fun vi _ => b + 1 - (intOf vi).toNat)
  case atStart => exact ⟨a + 1, d, by go_num, by omega, by omega, ⟨Sw.refl _, fun t h1 h2 => by omega⟩, H0⟩
  case round =>
    clear H0
    obtain ⟨i, e, rfl, hi1, hi2, hse, hst⟩ := hrel
    by_cases hib : i < b
    · have hib' : (i : Int) < (b : Int) := by omega
      go_wp2
      go_loopw [7] (fun vj wx => ∃ (j : Nat) (e : Fn), vj = .int .i64 j ∧ a ≤ j ∧ j ≤ i ∧ Hid (Sw a b d e ∧ InI a i j e) ∧ Hid (Sr w wx g n V e)) (fun vj _ => (intOf vj).toNat)
      case atStart => exact ⟨i, e, rfl, by omega, Nat.le_refl _, ⟨hse.out.1, ini_start hse.out.2⟩, hst⟩
      case round =>
        clear hse hst
        obtain ⟨j, e, rfl, hj1, hj2, hin, hst⟩ := hrel
        by_cases hja : a < j
        · have hjd : decide ((a : Int) < (j : Int)) = true := by simp only [decide_eq_true_eq]; omega
          have hjd2 : decide (a < j) = true := by simp only [decide_eq_true_eq]; omega
          have c1 := rowD_at hst.out.row j (by omega)
          have c0 := rowD_at hst.out.row (j - 1) (by omega)
          have f1 := rowD_fr hst.out.row j
          have f0 := rowD_fr hst.out.row (j - 1)
          obtain ⟨x, hx⟩ : ∃ x, e j = x := ⟨_, rfl⟩
          obtain ⟨y, hy⟩ : ∃ y, e (j - 1) = y := ⟨_, rfl⟩
          rw [hx] at c1
          rw [hy] at c0
          have HX : Hid _ := hx
          have HY : Hid _ := hy
          obtain ⟨t, ht⟩ : ∃ t, t = decide (x < y) := ⟨_, rfl⟩
          have HT : Hid _ := ht
          clear hx hy ht
          have k1 : (j : Int) < (n : Int) := by omega
          have k2 : ((j : Int) - 1).toNat = j - 1 := by omega
          have k3 : (0 : Int) ≤ (j : Int) - 1 := by omega
          have k4 : (1 : Int) ≤ (j : Int) := by omega
          have k5 : (j : Int) ≤ (n : Int) := by omega
          have k6 : (j : Int) - 1 < (n : Int) := by omega
          have k7 : j < n := by omega
          have k8 : j ≤ n := by omega
          cases t
          · have hge : ¬ x < y := by have := HT.out; simpa using this.symm
            have HS : Hid (Srt a (i + 1) e) := hin.out.2.stop (Or.inr (by rw [HX.out, HY.out]; omega))
            clear hge
            go_wp2
            go_quiet ((go_at_call 49; exact Calls.quiet_of_same (less_any _ _ _ _ HT.out)))
            go_wp2
            go_roundw
            case rel => exact ⟨i + 1, e, by go_num, by omega, by omega, ⟨hin.out.1, HS.out⟩, hst.out.drewN _⟩
            case measure => simp [intOf]; omega
          · have hlt : x < y := by have := HT.out; simpa using this.symm
            have HS : Hid (InI a i (j - 1) (sw e j (j - 1))) := hin.out.2.swap hja hj2 (by rw [HX.out, HY.out]; exact hlt)
            clear hlt
            go_wp2
            go_quiet ((go_at_call 49; exact Calls.quiet_of_same (less_any _ _ _ _ HT.out)))
            go_wp2
            go_region
            go_wp2
            go_roundw
            case rel =>
              refine ⟨j - 1, sw e j (j - 1), by congr 1; omega, by omega, by omega, ⟨Sw.step j (j - 1) hin.out.1 (by omega) (by omega) (by omega) (by omega), HS.out⟩, ?_⟩
              have hs := (hst.out.drewN (nq + 1)).swap j (j - 1) 0 (by omega) (by omega)
              rw [HX.out, HY.out] at hs
              exact hs
            case measure => simp [intOf]; omega
        · have hjd : decide ((a : Int) < (j : Int)) = false := by simp only [decide_eq_false_iff_not]; omega
          have hjd2 : decide (a < j) = false := by simp only [decide_eq_false_iff_not]; omega
          have HS : Hid (Srt a (i + 1) e) := hin.out.2.stop (Or.inl (by omega))
          go_wp2
          go_quiet (fail)
          go_wp2
          go_roundw
          case rel => exact ⟨i + 1, e, by go_num, by omega, by omega, ⟨hin.out.1, HS.out⟩, hst.out.drewN _⟩
          case measure => simp [intOf]; omega
    · have hib' : ¬ (i : Int) < (b : Int) := by omega
      go_wp2
      go_end0
      exact ⟨e, rfl, hse.out.1, fun t h1 h2 => hse.out.2 t h1 (by omega), hst.out⟩

/-! ### reverseRangeOrdered -/
def PmPost (g n a b : Nat) (V : List Value) (d : Fn) (w : World) (e : Ending) (w' : World) : Prop := ∃ d', e = .returned (.tuple #[]) ∧ Sw a b d d' ∧ Sr w w' g n V d'
set_option maxHeartbeats 4000000 in
theorem rev_any (g n cap a b : Nat) (V : List Value) (d : Fn) (w : World) (hab : a ≤ b) (hbn : b ≤ n) (hn : n ≤ 1099511627776) (hr : rowD w g n V d) :
    Calls Try.prog 47 #[.slice (some ⟨g, 0, none⟩) n cap, .int .i64 a, .int .i64 b] w fun e w' => PmPost g n a b V d w e w' := by
  have H0 : Hid (Sr w w g n V d) := Sr.self hr
  clear hr
  go_enter Try.func47, Try.ntmps47
  go_wp2
  go_loopw [6, 7] (fun vi vj wx => ∃ (i : Nat) (J : Int) (e : Fn), vi = .int .i64 i ∧ vj = .int .i64 J ∧ a ≤ i ∧ i ≤ n ∧ -1 ≤ J ∧ J < (b : Int) ∧ Hid (Sw a b d e) ∧ Hid (Sr w wx g n V e)) (fun vi vj _ => (intOf vj - intOf vi).toNat)
  case atStart => exact ⟨a, _, d, rfl, rfl, by omega, by omega, by omega, by omega, Sw.refl _, H0⟩
  case round =>
    clear H0
    obtain ⟨i, J, e, rfl, rfl, hi1, hi2, hJ1, hJ2, hse, hst⟩ := hrel
    by_cases hij : (i : Int) < J
    · obtain ⟨j, rfl⟩ : ∃ j : Nat, J = (j : Int) := ⟨J.toNat, by omega⟩
      have c1 := rowD_at hst.out.row j (by omega)
      have c0 := rowD_at hst.out.row i (by omega)
      have f1 := rowD_fr hst.out.row j
      have f0 := rowD_fr hst.out.row i
      obtain ⟨x, hx⟩ : ∃ x, e j = x := ⟨_, rfl⟩
      obtain ⟨y, hy⟩ : ∃ y, e i = y := ⟨_, rfl⟩
      rw [hx] at c1
      rw [hy] at c0
      have HX : Hid _ := hx
      have HY : Hid _ := hy
      clear hx hy
      have k1 : (j : Int) < (n : Int) := by omega
      have k2 : (i : Int) < (n : Int) := by omega
      have k3 : ¬ i = j := by omega
      have k4 : ¬ j = i := by omega
      go_wp2
      go_region
      go_wp2
      go_roundw
      case rel =>
        refine ⟨i + 1, (j : Int) - 1, sw e i j, by go_num, by go_num, by omega, by omega, by omega, by omega, Sw.step i j hse.out (by omega) (by omega) (by omega) (by omega), ?_⟩
        have hs := (hst.out.drewN 1).swap i j 0 (by omega) (by omega)
        rw [HX.out, HY.out] at hs
        exact hs
      case measure => simp [intOf]; omega
    · go_wp2
      go_end0
      exact ⟨e, rfl, hse.out, hst.out⟩
end Go.Proofs.Qxb6603449a.SO
