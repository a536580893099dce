import Derived.Test.Qxb6603449aPd
namespace Go.Proofs.Qxb6603449a.PA
open Go.RowKit
set_option linter.unusedVariables false

theorem zz_pa (s : ByteArray) (w : World) (hm : s.size ≤ 1048576) :
    Calls Try.prog 10 #[.string s] w fun e w' => PaPost s w e w' := by
  go_enter Try.func10, Try.ntmps10
  go_wp2_with fail
  refine (pa_any s _ hm).mono ?_
  rintro e w1 ⟨b, rfl, hb, hw⟩
  have HB : Hid _ := hb
  have HW : Hid _ := hw
  clear hb hw
  go_wp2
  go_ret
  exact ⟨b, rfl, HB.out, HW.out⟩
theorem zzb_yes (s : ByteArray) (w : World) (hm : s.size ≤ 1048576) :
    Calls Try.prog 9 #[.string s] w fun e w' => e = .returned (.bool true) ∧ w = w' := by
  have t : decide ((1048576 : Int) < (s.size : Int)) = false := by simp only [decide_eq_false_iff_not]; omega
  have t2 : ¬ (1048576 : Int) < (s.size : Int) := by omega
  go_enter Try.func9, Try.ntmps9
  go_wp2
  go_ret
  exact ⟨rfl, rfl⟩
theorem zzb_no (s : ByteArray) (w : World) (hm : ¬ s.size ≤ 1048576) :
    Calls Try.prog 9 #[.string s] w fun e w' => e = .returned (.bool false) ∧ w = w' := by
  have t : decide ((1048576 : Int) < (s.size : Int)) = true := by simp only [decide_eq_true_eq]; omega
  have t2 : (1048576 : Int) < (s.size : Int) := by omega
  go_enter Try.func9, Try.ntmps9
  go_wp2
  go_ret
  exact ⟨rfl, rfl⟩
theorem law_no (s : ByteArray) (w : World) (hm : ¬ s.size ≤ 1048576) :
    Calls Try.prog 3 #[.string s] w fun e w' => e = .returned (.bool true) ∧ ∃ n, w' = w.drewN n := by
  go_enter Try.func3, Try.ntmps3
  go_wp2_with fail
  refine (zzb_no s _ hm).mono ?_
  rintro e w1 ⟨rfl, rfl⟩
  go_wp2
  go_ret
  exact ⟨rfl, 0, rfl⟩
theorem law_zero (s : ByteArray) (w : World) (h0 : s.size = 0) :
    Calls Try.prog 3 #[.string s] w fun e w' => e = .returned (.bool true) ∧ ∃ n, w' = w.drewN n := by
  have t1 : decide ((1048576 : Int) < (s.size : Int)) = false := by simp only [decide_eq_false_iff_not]; omega
  have t2 : decide ((0 : Int) < (s.size : Int)) = false := by simp only [decide_eq_false_iff_not]; omega
  have t3 : ¬ (0 : Int) < (s.size : Int) := by omega
  have H0 : Hid _ := h0
  clear h0
  go_enter Try.func3, Try.ntmps3
  go_wp2_with fail
  refine (zzb_yes s _ (by have := H0.out; omega)).mono ?_
  rintro e w1 ⟨rfl, rfl⟩
  go_wp2
  go_loopw [3, 4] (fun vt vi wx => vt = .bool false ∧ vi = .int .i64 0 ∧ w = wx) (fun _ vi _ => 0)
  case atStart => exact ⟨by rw [decide_eq_false (by omega)], rfl, rfl⟩
  case round =>
    obtain ⟨rfl, rfl, rfl⟩ := hrel
    go_wp2_with fail
    refine (zz_pa s _ (by have := H0.out; omega)).mono ?_
    rintro e w1 ⟨b, rfl, hb, hw⟩
    have HW : Hid _ := hw
    have hbf : b = false := by
      cases b
      · rfl
      · have := hb.1 rfl; have := H0.out; omega
    subst hbf
    clear hb hw
    go_wp2
    go_ret
    exact ⟨rfl, HW.out⟩
set_option maxHeartbeats 1000000 in
theorem law_pos (s : ByteArray) (w : World) (h0 : 0 < s.size) (hm : s.size ≤ 1048576) :
    Calls Try.prog 3 #[.string s] w fun e w' => e = .returned (.bool true) ∧ ∃ n, w' = w.drewN n := by
  have t1 : decide ((1048576 : Int) < (s.size : Int)) = false := by simp only [decide_eq_false_iff_not]; omega
  have t2 : decide ((0 : Int) < (s.size : Int)) = true := by simp only [decide_eq_true_eq]; omega
  go_enter Try.func3, Try.ntmps3
  go_wp2_with fail
  refine (zzb_yes s _ hm).mono ?_
  rintro e w1 ⟨rfl, rfl⟩
  go_wp2
  go_loopw [3, 4] (fun vt vi wx => ∃ i : Nat, vt = .bool true ∧ vi = .int .i64 i ∧ i ≤ s.size ∧ Hid (Upto s i) ∧ Hid (∃ n, wx = w.drewN n)) (fun _ vi _ => s.size - (intOf vi).toNat)
  case atStart => exact ⟨0, rfl, rfl, by omega, by unfold Hid Upto; intro j hj; omega, ⟨0, rfl⟩⟩
  case round =>
    obtain ⟨i, rfl, rfl, hi, hup, hwx⟩ := hrel
    by_cases hl : i < s.size
    · have hli : (i : Int) < (s.size : Int) := by omega
      have hat := at_eq s i hl
      have HAT : Hid _ := hat
      clear hat
      by_cases a : s[i].toNat < 32
      · have a1 : (s[i].toNat : Int) < 32 := by omega
        go_wp2_with fail
        refine (zz_pa s _ hm).mono ?_
        rintro e w1 ⟨b, rfl, hb, hw⟩
        have HW : Hid (∃ n, w1 = w.drewN n) := more hwx.out hw
        have hbf : b = false := by
          cases b
          · rfl
          · exfalso
            have h1 := (hb.1 rfl).2 i hl
            have h2 := HAT.out
            unfold In at h1; omega
        subst hbf
        clear hb hw
        go_wp2
        go_ret
        exact ⟨rfl, HW.out⟩
      · have a1 : ¬ (s[i].toNat : Int) < 32 := by omega
        by_cases c : 126 < s[i].toNat
        · have c1 : (126 : Int) < (s[i].toNat : Int) := by omega
          go_wp2_with fail
          refine (zz_pa s _ hm).mono ?_
          rintro e w1 ⟨b, rfl, hb, hw⟩
          have HW : Hid (∃ n, w1 = w.drewN n) := more hwx.out hw
          have hbf : b = false := by
            cases b
            · rfl
            · exfalso
              have h1 := (hb.1 rfl).2 i hl
              have h2 := HAT.out
              unfold In at h1; omega
          subst hbf
          clear hb hw
          go_wp2
          go_ret
          exact ⟨rfl, HW.out⟩
        · have c1 : ¬ (126 : Int) < (s[i].toNat : Int) := by omega
          have HU : Hid (Upto s (i + 1)) := by
            unfold Hid Upto; intro j hj
            by_cases d : j < i
            · exact hup.out j d
            · have e : j = i := by omega
              have h2 := HAT.out
              rw [e]; unfold In; omega
          go_wp2
          go_roundw
          case rel => exact ⟨i + 1, rfl, by go_num, by omega, HU, hwx⟩
          case measure => simp [intOf]; omega
    · have hli : ¬ (i : Int) < (s.size : Int) := by omega
      have HU : Hid (Upto s s.size) := by
        have e : i = s.size := by omega
        have := hup; rw [e] at this; exact this
      go_wp2_with fail
      refine (zz_pa s _ hm).mono ?_
      rintro e w1 ⟨b, rfl, hb, hw⟩
      have HW : Hid (∃ n, w1 = w.drewN n) := more hwx.out hw
      have hbf : b = true := hb.2 ⟨h0, HU.out⟩
      subst hbf
      clear hb hw
      go_wp2
      go_ret
      exact ⟨rfl, HW.out⟩
theorem law (s : ByteArray) (w : World) :
    Calls Try.prog 3 #[.string s] w fun e w' => e = .returned (.bool true) ∧ ∃ n, w' = w.drewN n := by
  by_cases hm : s.size ≤ 1048576
  · by_cases h0 : s.size = 0
    · exact law_zero s w h0
    · exact law_pos s w (by omega) hm
  · exact law_no s w hm
end Go.Proofs.Qxb6603449a.PA
