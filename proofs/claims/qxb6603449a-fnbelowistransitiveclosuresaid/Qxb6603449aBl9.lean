import Derived.Test.Qxb6603449aBl8
namespace Go.Proofs.Qxb6603449a.BL
open Go.RowKit Go.ChangeMaps
set_option linter.unusedVariables false
set_option linter.unusedSimpArgs false

/-! ### zzBytes: it answers -/
def ZbPost (w : World) (e : Ending) (w' : World) : Prop := ∃ b, e = .returned (.bool b) ∧ w = w'
set_option maxRecDepth 100000 in
set_option maxHeartbeats 8000000 in
theorem zb_any (N : List St) (Ms : List (List St)) (name : St) (ao am : Option Addr) (n m c1 c2 : Nat) (w : World) (hn : N.length = n) (hm : Ms.length = m) (hnm : n ≤ maxLen) (hmm : m ≤ maxLen) (hrn : StrRd w ao N) (hrm : LstRd w am Ms) :
    Calls Try.prog 12 #[.slice ao n c1, .slice am m c2, .string name] w fun e w' => ZbPost w e w' := by
  have HRN : Hid (StrRd w ao N) := hrn
  have HRM : Hid (LstRd w am Ms) := hrm
  have HN : Hid _ := hn
  have HM : Hid _ := hm
  clear hrn hrm hn hm
  by_cases t1 : (1048576 : Int) < (n : Int)
  · go_enter Try.func12, Try.ntmps12
    go_wp2
    go_ret
    exact ⟨false, rfl, rfl⟩
  · go_enter Try.func12, Try.ntmps12
    go_wp2
    go_loopw [7, 8] (fun vz vi wx => ∃ (z : Int) (i : Nat), vz = .int .i64 z ∧ vi = .int .i64 i ∧ i ≤ n ∧ 0 ≤ z ∧ z ≤ 1048576 ∧ w = wx) (fun _ vi _ => n - (intOf vi).toNat)
    case atStart => exact ⟨n, 0, rfl, rfl, by omega, by omega, by omega, rfl⟩
    case round =>
      obtain ⟨z, i, rfl, rfl, hi, hz0, hz1, rfl⟩ := hrel
      by_cases hil : i < n
      · have hil' : (i : Int) < (n : Int) := by omega
        obtain ⟨b, off, hao, hbl, hc⟩ := HRN.out.at_ (i := i) (by rw [HN.out]; exact hil)
        subst hao
        generalize N.getD i ByteArray.empty = s at hc
        by_cases s1 : (1048576 : Int) < (s.size : Int)
        · go_wp2
          go_ret
          exact ⟨false, rfl, rfl⟩
        · by_cases s2 : (1048576 : Int) < z + (s.size : Int)
          · go_wp2
            go_ret
            exact ⟨false, rfl, rfl⟩
          · go_wp2
            go_roundw
            case rel => exact ⟨z + s.size, i + 1, rfl, by go_num, by omega, by omega, by omega, by trivial⟩
            case measure => simp [intOf]; omega
      · have hil' : ¬ (i : Int) < (n : Int) := by omega
        by_cases t2 : (1048576 : Int) < (m : Int)
        · go_wp2
          go_ret
          exact ⟨false, rfl, rfl⟩
        · by_cases t3 : (1048576 : Int) < z + (m : Int)
          · go_wp2
            go_ret
            exact ⟨false, rfl, rfl⟩
          · go_wp2
            go_loopw [7, 9] (fun vz vi wx => ∃ (z : Int) (i : Nat), vz = .int .i64 z ∧ vi = .int .i64 i ∧ i ≤ m ∧ 0 ≤ z ∧ z ≤ 1048576 ∧ w = wx) (fun _ vi _ => m - (intOf vi).toNat)
            case atStart => exact ⟨z + m, 0, rfl, rfl, by omega, by omega, by omega, rfl⟩
            case round =>
              clear hz0 hz1 t3
              obtain ⟨z, i, rfl, rfl, hi, hz0, hz1, rfl⟩ := hrel
              by_cases hil : i < m
              · have hil' : (i : Int) < (m : Int) := by omega
                obtain ⟨bm, om, ai, ci, ham, hbm, hcm, hsi, _⟩ := HRM.out.at_ (i := i) (by rw [HM.out]; exact hil)
                subst ham
                have HSI : Hid (StrRd w ai (mm Ms i)) := hsi
                generalize hl : (mm Ms i).length = l at hcm
                have HL : Hid _ := hl
                clear hl hsi
                by_cases s1 : (1048576 : Int) < (l : Int)
                · go_wp2
                  go_ret
                  exact ⟨false, rfl, rfl⟩
                · by_cases s2 : (1048576 : Int) < z + (l : Int)
                  · go_wp2
                    go_ret
                    exact ⟨false, rfl, rfl⟩
                  · go_wp2
                    go_loopw [7, 10] (fun vz vj wx => ∃ (z : Int) (j : Nat), vz = .int .i64 z ∧ vj = .int .i64 j ∧ j ≤ l ∧ 0 ≤ z ∧ z ≤ 1048576 ∧ w = wx) (fun _ vj _ => l - (intOf vj).toNat)
                    case atStart => exact ⟨z + l, 0, rfl, rfl, by omega, by omega, by omega, rfl⟩
                    case round =>
                      clear hz0 hz1 s2
                      obtain ⟨z, j, rfl, rfl, hj, hz0, hz1, rfl⟩ := hrel
                      by_cases hjl : j < l
                      · have hjl' : (j : Int) < (l : Int) := by omega
                        obtain ⟨b, off, hao, hbl, hc⟩ := HSI.out.at_ (i := j) (by rw [HL.out]; exact hjl)
                        subst hao
                        generalize (mm Ms i).getD j ByteArray.empty = s at hc
                        by_cases s3 : (1048576 : Int) < (s.size : Int)
                        · go_wp2
                          go_ret
                          exact ⟨false, rfl, rfl⟩
                        · by_cases s4 : (1048576 : Int) < z + (s.size : Int)
                          · go_wp2
                            go_ret
                            exact ⟨false, rfl, rfl⟩
                          · go_wp2
                            go_roundw
                            case rel => exact ⟨z + s.size, j + 1, rfl, by go_num, by omega, by omega, by omega, by trivial⟩
                            case measure => simp [intOf]; omega
                      · have hjl' : ¬ (j : Int) < (l : Int) := by omega
                        go_wp2
                        go_roundw
                        case rel => exact ⟨z, i + 1, rfl, by go_num, by omega, by omega, by omega, by trivial⟩
                        case measure => simp [intOf]; omega
              · have hil' : ¬ (i : Int) < (m : Int) := by omega
                by_cases s1 : (1048576 : Int) < (name.size : Int)
                · go_wp2
                  go_ret
                  exact ⟨false, rfl, rfl⟩
                · by_cases s2 : (1048576 : Int) < z + (name.size : Int)
                  · go_wp2
                    go_ret
                    exact ⟨false, rfl, rfl⟩
                  · go_wp2
                    go_ret
                    exact ⟨true, rfl, rfl⟩
end Go.Proofs.Qxb6603449a.BL
