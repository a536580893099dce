import Derived.Test.Qxb6603449aBl9
namespace Go.Proofs.Qxb6603449a.BL
open Go.RowKit Go.ChangeMaps
set_option linter.unusedVariables false
set_option linter.unusedSimpArgs false

/-! ### belowTooBig -/
def TbPost (Ms : List (List St)) (n m : Nat) (w : World) (e : Ending) (w' : World) : Prop := ∃ b, e = .returned (.bool b) ∧ (b = false → n ≤ 4096 ∧ m ≤ 4096 ∧ tot Ms ≤ 4096) ∧ w = w'
theorem tb_yes {Ms : List (List St)} {n m : Nat} {w : World} : TbPost Ms n m w (.returned (.bool true)) w := ⟨true, rfl, (fun h => by cases h), rfl⟩
set_option maxRecDepth 100000 in
set_option maxHeartbeats 8000000 in
theorem tb_any (N : List St) (Ms : List (List St)) (name : St) (ao am : Option Addr) (n m c1 c2 : Nat) (w : World) (hn : N.length = n) (hm : Ms.length = m) (hrn : StrRd w ao N) (hrm : LstRd w am Ms) :
    Calls Try.prog 13 #[.slice ao n c1, .slice am m c2, .string name] w fun e w' => TbPost Ms n m w e w' := by
  have HRN : Hid (StrRd w ao N) := hrn
  have HRM : Hid (LstRd w am Ms) := hrm
  have HN : Hid _ := hn
  have HM : Hid _ := hm
  clear hrn hrm hn hm
  by_cases t1 : 4096 < n
  · have t1' : decide ((4096 : Int) < (n : Int)) = true := by simp only [decide_eq_true_eq]; omega
    go_enter Try.func13, Try.ntmps13
    go_wp2
    go_ret
    exact tb_yes
  · have t1' : decide ((4096 : Int) < (n : Int)) = false := by simp only [decide_eq_false_iff_not]; omega
    by_cases t2 : 4096 < m
    · have t2' : decide ((4096 : Int) < (m : Int)) = true := by simp only [decide_eq_true_eq]; omega
      go_enter Try.func13, Try.ntmps13
      go_wp2
      go_ret
      exact tb_yes
    · have t2' : decide ((4096 : Int) < (m : Int)) = false := by simp only [decide_eq_false_iff_not]; omega
      by_cases t3 : (1048576 : Int) < (name.size : Int)
      · have t3' : decide ((1048576 : Int) < (name.size : Int)) = true := by simp only [decide_eq_true_eq]; omega
        go_enter Try.func13, Try.ntmps13
        go_wp2
        go_ret
        exact tb_yes
      · have t3' : decide ((1048576 : Int) < (name.size : Int)) = false := by simp only [decide_eq_false_iff_not]; omega
        by_cases t4 : (1048576 : Int) < (name.size : Int) + 16 * (n : Int) + 24 * (m : Int)
        · go_enter Try.func13, Try.ntmps13
          go_wp2
          go_ret
          exact tb_yes
        · go_enter Try.func13, Try.ntmps13
          go_wp2
          go_loopw [7, 8] (fun vz vi wx => ∃ (z : Int) (i : Nat), vz = .int .i64 z ∧ vi = .int .i64 i ∧ i ≤ n ∧ 0 ≤ z ∧ z ≤ 1048576 ∧ w = wx) (fun _ vi _ => n - (intOf vi).toNat)
          case atStart => exact ⟨_, 0, rfl, rfl, by omega, by omega, by omega, rfl⟩
          case round =>
            obtain ⟨z, i, rfl, rfl, hi, hz0, hz1, rfl⟩ := hrel
            by_cases hil : i < n
            · have hil' : (i : Int) < (n : Int) := by omega
              obtain ⟨b, off, hao, hbl, hc⟩ := HRN.out.at_ (i := i) (by rw [HN.out]; exact hil)
              subst hao
              generalize N.getD i ByteArray.empty = s at hc
              by_cases s1 : (1048576 : Int) < (s.size : Int)
              · go_wp2
                go_ret
                exact tb_yes
              · by_cases s2 : (1048576 : Int) < z + (s.size : Int)
                · go_wp2
                  go_ret
                  exact tb_yes
                · go_wp2
                  go_roundw
                  case rel => exact ⟨z + s.size, i + 1, rfl, by go_num, by omega, by omega, by omega, by trivial⟩
                  case measure => simp [intOf]; omega
            · have hil' : ¬ (i : Int) < (n : Int) := by omega
              go_wp2
              go_loopw [7, 9, 10] (fun vz vq vi wx => ∃ (z : Int) (q i : Nat), vz = .int .i64 z ∧ vq = .int .i64 q ∧ vi = .int .i64 i ∧ i ≤ m ∧ q ≤ 4096 ∧ Hid (q = upto Ms i) ∧ 0 ≤ z ∧ z ≤ 1048576 ∧ w = wx) (fun _ _ vi _ => m - (intOf vi).toNat)
              case atStart => exact ⟨z, 0, 0, rfl, rfl, rfl, by omega, by omega, rfl, by omega, by omega, rfl⟩
              case round =>
                clear hz0 hz1 t4
                obtain ⟨z, q, i, rfl, rfl, rfl, hi, hq4, hq, hz0, hz1, rfl⟩ := hrel
                by_cases hil : i < m
                · have hil' : (i : Int) < (m : Int) := by omega
                  obtain ⟨bm, om, ai, ci, ham, hbm, hcm, hsi, _⟩ := HRM.out.at_ (i := i) (by rw [HM.out]; exact hil)
                  subst ham
                  have HSI : Hid (StrRd w ai (mm Ms i)) := hsi
                  have hus := upto_succ Ms i (by rw [HM.out]; exact hil)
                  generalize hl : (mm Ms i).length = l at hcm hus
                  have HL : Hid _ := hl
                  have HUS : Hid (q + l = upto Ms (i + 1)) := by unfold Hid; have := hq.out; omega
                  clear hl hsi hus hq
                  by_cases s0 : (4096 : Int) < (l : Int)
                  · go_wp2
                    go_ret
                    exact tb_yes
                  · by_cases s1 : (4096 : Int) < (q : Int) + (l : Int)
                    · go_wp2
                      go_ret
                      exact tb_yes
                    · by_cases s2 : (1048576 : Int) < z + 16 * (l : Int)
                      · go_wp2
                        go_ret
                        exact tb_yes
                      · go_wp2
                        go_loopw [7, 11] (fun vz vj wx => ∃ (z : Int) (j : Nat), vz = .int .i64 z ∧ vj = .int .i64 j ∧ j ≤ l ∧ 0 ≤ z ∧ z ≤ 1048576 ∧ w = wx) (fun _ vj _ => l - (intOf vj).toNat)
                        case atStart => exact ⟨_, 0, rfl, rfl, by omega, by omega, by omega, rfl⟩
                        case round =>
                          clear hz0 hz1 s2
                          obtain ⟨z, j, rfl, rfl, hj, hz0, hz1, rfl⟩ := hrel
                          by_cases hjl : j < l
                          · have hjl' : (j : Int) < (l : Int) := by omega
                            obtain ⟨b, off, hao, hbl, hc⟩ := HSI.out.at_ (i := j) (by rw [HL.out]; exact hjl)
                            subst hao
                            generalize (mm Ms i).getD j ByteArray.empty = s at hc
                            by_cases s3 : (1048576 : Int) < (s.size : Int)
                            · go_wp2
                              go_ret
                              exact tb_yes
                            · by_cases s4 : (1048576 : Int) < z + (s.size : Int)
                              · go_wp2
                                go_ret
                                exact tb_yes
                              · go_wp2
                                go_roundw
                                case rel => exact ⟨z + s.size, j + 1, rfl, by go_num, by omega, by omega, by omega, by trivial⟩
                                case measure => simp [intOf]; omega
                          · have hjl' : ¬ (j : Int) < (l : Int) := by omega
                            go_wp2
                            go_roundw
                            case rel => exact ⟨z, q + l, i + 1, rfl, by go_num, by go_num, by omega, by omega, HUS, by omega, by omega, by trivial⟩
                            case measure => simp [intOf]; omega
                · have hil' : ¬ (i : Int) < (m : Int) := by omega
                  go_wp2
                  go_ret
                  refine ⟨false, rfl, fun _ => ⟨by omega, by omega, ?_⟩, rfl⟩
                  have e : i = Ms.length := by have := HM.out; omega
                  have := hq.out
                  rw [e, upto_all] at this
                  omega

/-! ### The law -/
def LwPost (w : World) (e : Ending) (w' : World) : Prop := e = .returned (.bool true) ∧ Below w.heap.size w w'
set_option maxRecDepth 100000 in
set_option maxHeartbeats 8000000 in
theorem law_any (N : List St) (Ms : List (List St)) (name : St) (ao am : Option Addr) (n m c1 c2 : Nat) (w : World) (hn : N.length = n) (hm : Ms.length = m) (hnm : n ≤ maxLen) (hmm : m ≤ maxLen) (hrn : StrRd w ao N) (hrm : LstRd w am Ms)
    (h0 : ao = none → n = 0 ∧ c1 = 0) (h1 : am = none → m = 0 ∧ c2 = 0) :
    Calls Try.prog 5 #[.slice ao n c1, .slice am m c2, .string name] w fun e w' => LwPost w e w' := by
  have HRN : Hid (StrRd w ao N) := hrn
  have HRM : Hid (LstRd w am Ms) := hrm
  have HN : Hid _ := hn
  have HM : Hid _ := hm
  have H0 : Hid _ := h0
  have H1 : Hid _ := h1
  clear hrn hrm hn hm h0 h1
  go_enter Try.func5, Try.ntmps5
  go_wp2_with fail
  refine (zb_any N Ms name ao am n m c1 c2 w HN.out HM.out hnm hmm HRN.out HRM.out).mono ?_
  rintro e w' ⟨b, rfl, rfl⟩
  cases b
  · go_wp2
    go_ret
    exact ⟨rfl, Below.refl _ _⟩
  · go_wp2_with fail
    refine (tb_any N Ms name ao am n m c1 c2 w HN.out HM.out HRN.out HRM.out).mono ?_
    rintro e w' ⟨b, rfl, hb, rfl⟩
    cases b
    · obtain ⟨n4, m4, t4⟩ := hb rfl
      clear hb
      by_cases hnm2 : n = m
      · subst hnm2
        have HT : Hid _ := t4
        have hne : ((n : Int) != (n : Int)) = false := by simp
        have hmsl : ∀ k, (mm Ms k).length ≤ 1048576 := fun k => by
          by_cases hk : k < Ms.length
          · have h1 := upto_succ Ms k hk
            have h2 := upto_le Ms (k + 1)
            omega
          · have e : mm Ms k = [] := by unfold mm; simp [show Ms.length ≤ k by omega]
            rw [e]; simp
        have HML : Hid (∀ k, (mm Ms k).length ≤ 1048576) := hmsl
        clear t4 hmsl
        go_wp2_with fail
        refine (clone_any ao n c1 N w HN.out (by omega) H0.out HRN.out).mono ?_
        rintro e w1 ⟨ao1, d1, rfl, hr1, _, hb1⟩
        have HR1 : Hid (StrRd w1 ao1 N) := hr1.rd
        have HB1 : Hid (Below w.heap.size w w1) := hb1
        clear hr1 hb1
        go_wp2_with fail
        refine (lists_any am n c2 Ms w1 HM.out (by omega) HML.out H1.out (HRM.out.on HB1.out)).mono ?_
        rintro e w2 ⟨am1, d2, rfl, hr2, hb2⟩
        have HB2 : Hid (Below w.heap.size w w2) := below_up HB1.out hb2
        have HR2 : Hid (StrRd w2 ao1 N) := HR1.out.on hb2
        have HL2 : Hid (LstRd w2 am1 Ms) := hr2
        clear hr2 hb2 HR1
        go_wp2_with fail
        refine (zz_below N Ms name ao1 am1 n d1 d2 w2 HN.out HM.out n4 HT.out HR2.out HL2.out).mono ?_
        rintro e w3 ⟨bf, F, rfl, hf, hfn, hfi, hb3⟩
        have HB3 : Hid (Below w.heap.size w w3) := below_up HB2.out hb3
        have HR3 : Hid (StrRd w3 ao1 N) := HR2.out.on hb3
        have HL3 : Hid (LstRd w3 am1 Ms) := HL2.out.on hb3
        have HF : Hid (atM w3 bf (bools F)) := hf
        have HFN : Hid F.Nodup := hfn
        have HFI : Hid (∀ x, x ∈ F ↔ Rch N Ms name x) := hfi
        clear hf hfn hfi hb3
        go_wp2_with fail
        refine (model_any N Ms name ao1 am1 n d1 d2 w3 HN.out HM.out n4 HT.out HR3.out HL3.out).mono ?_
        rintro e w4 ⟨bh, H, rfl, hh, hhn, hhi, hb4⟩
        have HB4 : Hid (Below w.heap.size w w4) := below_up HB3.out hb4
        have HL4 : Hid (LstRd w4 am1 Ms) := HL3.out.on hb4
        have HF4 : Hid (atM w4 bf (bools F)) := (hb4.block bf (atM_lt HF.out)).trans HF.out
        have HH4 : Hid (atM w4 bh (bools H)) := hh
        have hlen : F.length = H.length := same_len HFN.out hhn (fun x => (HFI.out x).trans (hhi x).symm)
        have hsame : ∀ x, decide (x ∈ F) = decide (x ∈ H) := fun x => by
          have := (HFI.out x).trans (hhi x).symm
          by_cases h : x ∈ F
          · simp [h, this.1 h]
          · have h2 : x ∉ H := fun c => h (this.2 c)
            simp [h, h2]
        have HSM : Hid (∀ x, decide (x ∈ F) = decide (x ∈ H)) := hsame
        have hlm := fun ty => len_map ty HF4.out
        rw [bools_len, hlen] at hlm
        have HLEN : Hid _ := hlen
        clear hh hhn hhi hb4 hsame hlen
        go_wp2
        go_loopw [10] (fun vi wx => ∃ i : Nat, vi = .int .i64 i ∧ i ≤ n ∧ w4 = wx) (fun vi _ => n - (intOf vi).toNat)
        case atStart => exact ⟨0, rfl, by omega, rfl⟩
        case round =>
          obtain ⟨i, rfl, hi, rfl⟩ := hrel
          by_cases hil : i < n
          · have hil' : (i : Int) < (n : Int) := by omega
            obtain ⟨bm, om, ai, ci, ham, hbm, hcm, hsi, _⟩ := HL4.out.at_ (i := i) (by rw [HM.out]; exact hil)
            subst ham
            have HSI : Hid (StrRd w4 ai (mm Ms i)) := hsi
            generalize hl : (mm Ms i).length = l at hcm
            have hl4 : l ≤ 1048576 := by rw [← hl]; exact HML.out i
            have HLL : Hid _ := hl
            clear hl hsi
            go_wp2
            go_loopw [11] (fun vj wx => ∃ j : Nat, vj = .int .i64 j ∧ j ≤ l ∧ w4 = wx) (fun vj _ => l - (intOf vj).toNat)
            case atStart => exact ⟨0, rfl, by omega, rfl⟩
            case round =>
              obtain ⟨j, rfl, hj, rfl⟩ := hrel
              by_cases hjl : j < l
              · have hjl' : (j : Int) < (l : Int) := by omega
                obtain ⟨b, off, hao, hbl, hc⟩ := HSI.out.at_ (i := j) (by rw [HLL.out]; exact hjl)
                subst hao
                generalize (mm Ms i).getD j ByteArray.empty = s at hc
                obtain ⟨t, ht⟩ : ∃ t, t = decide (s ∈ F) := ⟨_, rfl⟩
                have lk1 := look29 HF4.out s t ht
                have lk2 := look29 HH4.out s t (by rw [ht]; exact HSM.out s)
                have HK1 : Hid _ := lk1
                have HK2 : Hid _ := lk2
                clear ht lk1 lk2
                cases t
                · go_wp2_with (first | (at_lookup; refine wpList_look rfl _ _ 29 false rfl bf s rfl rfl _ HK1.out ?_) | (at_lookup; refine wpList_look rfl _ _ 29 false rfl bh s rfl rfl _ HK2.out ?_))
                  go_roundw
                  case rel => exact ⟨j + 1, by go_num, by omega, by trivial⟩
                  case measure => simp [intOf]; omega
                · go_wp2_with (first | (at_lookup; refine wpList_look rfl _ _ 29 false rfl bf s rfl rfl _ HK1.out ?_) | (at_lookup; refine wpList_look rfl _ _ 29 false rfl bh s rfl rfl _ HK2.out ?_))
                  go_roundw
                  case rel => exact ⟨j + 1, by go_num, by omega, by trivial⟩
                  case measure => simp [intOf]; omega
              · have hjl' : ¬ (j : Int) < (l : Int) := by omega
                go_wp2
                go_roundw
                case rel => exact ⟨i + 1, by go_num, by omega, by trivial⟩
                case measure => simp [intOf]; omega
          · have hil' : ¬ (i : Int) < (n : Int) := by omega
            go_wp2
            go_ret
            exact ⟨rfl, HB4.out⟩
      · have hne : ((n : Int) != (m : Int)) = true := by simp only [bne_iff_ne]; omega
        have HNE : Hid _ := hnm2
        clear hnm2
        go_wp2
        go_ret
        exact ⟨rfl, Below.refl _ _⟩
    · clear hb
      go_wp2
      go_ret
      exact ⟨rfl, Below.refl _ _⟩
end Go.Proofs.Qxb6603449a.BL
