import Derived.Test.Qxb6603449aRk
namespace Go.Proofs.Qxb6603449a.BL
open Go.RowKit Go.ChangeMaps
set_option linter.unusedVariables false
set_option linter.unusedSimpArgs false

/-! ### reachTooBig -/
def Tb2 (n m k : Nat) (w : World) (e : Ending) (w' : World) : Prop := ∃ b, e = .returned (.bool b) ∧ (b = false → 32 * n + 16 * m + 4 * k ≤ 1048576) ∧ w = w'
theorem tb2_yes {n m k : Nat} {w : World} : Tb2 n m k w (.returned (.bool true)) w := ⟨true, rfl, (fun h => by cases h), rfl⟩
set_option maxRecDepth 100000 in
set_option maxHeartbeats 8000000 in
theorem tb2_any (E : Ed) (N : List St) (name : St) (ae ao av : Option Addr) (n m k c0 c1 c2 : Nat) (w : World) (hn : E.length = n) (hm : N.length = m) (hre : EdRd w ae E) (hrn : StrRd w ao N) :
    Calls Try.prog 20 #[.slice ae n c0, .slice ao m c1, .slice av k c2, .slice none 0 0, .string name] w fun e w' => Tb2 n m k w e w' := by
  have HRE : Hid (EdRd w ae E) := hre
  have HRN : Hid (StrRd w ao N) := hrn
  have HN : Hid _ := hn
  have HM : Hid _ := hm
  clear hre hrn hn hm
  by_cases t1 : 1048576 < n
  · have t1' : decide ((1048576 : Int) < (n : Int)) = true := by simp only [decide_eq_true_eq]; omega
    go_enter Try.func20, Try.ntmps20
    go_wp2
    go_ret
    exact tb2_yes
  · have t1' : decide ((1048576 : Int) < (n : Int)) = false := by simp only [decide_eq_false_iff_not]; omega
    by_cases t2 : 1048576 < m
    · have t2' : decide ((1048576 : Int) < (m : Int)) = true := by simp only [decide_eq_true_eq]; omega
      go_enter Try.func20, Try.ntmps20
      go_wp2
      go_ret
      exact tb2_yes
    · have t2' : decide ((1048576 : Int) < (m : Int)) = false := by simp only [decide_eq_false_iff_not]; omega
      by_cases t3 : 1048576 < k
      · have t3' : decide ((1048576 : Int) < (k : Int)) = true := by simp only [decide_eq_true_eq]; omega
        go_enter Try.func20, Try.ntmps20
        go_wp2
        go_ret
        exact tb2_yes
      · have t3' : decide ((1048576 : Int) < (k : Int)) = false := by simp only [decide_eq_false_iff_not]; omega
        by_cases t4 : (1048576 : Int) < (name.size : Int)
        · have t4' : decide ((1048576 : Int) < (name.size : Int)) = true := by simp only [decide_eq_true_eq]; omega
          go_enter Try.func20, Try.ntmps20
          go_wp2
          go_ret
          exact tb2_yes
        · have t4' : decide ((1048576 : Int) < (name.size : Int)) = false := by simp only [decide_eq_false_iff_not]; omega
          by_cases t5 : (1048576 : Int) < 32 * (n : Int) + 16 * (m : Int) + 4 * (k : Int) + (name.size : Int)
          · go_enter Try.func20, Try.ntmps20
            go_wp2
            go_ret
            exact tb2_yes
          · have hfin : 32 * n + 16 * m + 4 * k ≤ 1048576 := by omega
            go_enter Try.func20, Try.ntmps20
            go_wp2
            go_loopw [11, 12] (fun vz vi wx => ∃ (z : Int) (i : Nat), vz = .int .i64 z ∧ vi = .int .i64 i ∧ i ≤ n ∧ 0 ≤ z ∧ z ≤ 1048576 ∧ w = wx) (fun _ vi _ => n - (intOf vi).toNat)
            case atStart => exact ⟨_, 0, rfl, rfl, by omega, by omega, by omega, rfl⟩
            case round =>
              obtain ⟨z, i, rfl, rfl, hi, hz0, hz1, rfl⟩ := hrel
              by_cases hil : i < n
              · have hil' : (i : Int) < (n : Int) := by omega
                obtain ⟨b, off, hao, hbl, hc0, hc1⟩ := HRE.out.at_ (i := i) (by rw [HN.out]; exact hil)
                subst hao
                generalize ek E i = s0 at hc0
                generalize eg E i = s1 at hc1
                go_wp2
                go_loopw [11, 13] (fun vz vj wx => ∃ (z : Int) (j : Nat), vz = .int .i64 z ∧ vj = .int .i64 j ∧ j ≤ 2 ∧ 0 ≤ z ∧ z ≤ 1048576 ∧ w = wx) (fun _ vj _ => 2 - (intOf vj).toNat)
                case atStart => exact ⟨z, 0, rfl, rfl, by omega, by omega, by omega, rfl⟩
                case round =>
                  clear hz0 hz1
                  obtain ⟨z, j, rfl, rfl, hj, hz0, hz1, rfl⟩ := hrel
                  have hj3 : j = 0 ∨ j = 1 ∨ j = 2 := by omega
                  rcases hj3 with rfl | rfl | rfl
                  · by_cases u1 : (1048576 : Int) < (s0.size : Int)
                    · go_wp2
                      go_ret
                      exact tb2_yes
                    · by_cases u2 : (1048576 : Int) < z + (s0.size : Int)
                      · go_wp2
                        go_ret
                        exact tb2_yes
                      · go_wp2
                        go_roundw
                        case rel => exact ⟨z + s0.size, 1, rfl, by go_num, by omega, by omega, by omega, by trivial⟩
                        case measure => simp [intOf]
                  · by_cases u1 : (1048576 : Int) < (s1.size : Int)
                    · go_wp2
                      go_ret
                      exact tb2_yes
                    · by_cases u2 : (1048576 : Int) < z + (s1.size : Int)
                      · go_wp2
                        go_ret
                        exact tb2_yes
                      · go_wp2
                        go_roundw
                        case rel => exact ⟨z + s1.size, 2, rfl, by go_num, by omega, by omega, by omega, by trivial⟩
                        case measure => simp [intOf]
                  · go_wp2
                    go_roundw
                    case rel => exact ⟨z, i + 1, rfl, by go_num, by omega, by omega, by omega, by trivial⟩
                    case measure => simp [intOf]; omega
              · have hil' : ¬ (i : Int) < (n : Int) := by omega
                go_wp2
                go_loopw [11, 14] (fun vz vi wx => ∃ (z : Int) (i : Nat), vz = .int .i64 z ∧ vi = .int .i64 i ∧ i ≤ m ∧ 0 ≤ z ∧ z ≤ 1048576 ∧ w = wx) (fun _ vi _ => m - (intOf vi).toNat)
                case atStart => exact ⟨z, 0, rfl, rfl, by omega, by omega, by omega, rfl⟩
                case round =>
                  clear hz0 hz1 t5
                  obtain ⟨z, i, rfl, rfl, hi, hz0, hz1, rfl⟩ := hrel
                  by_cases hil : i < m
                  · have hil' : (i : Int) < (m : Int) := by omega
                    obtain ⟨b, off, hao, hbl, hc⟩ := HRN.out.at_ (i := i) (by rw [HM.out]; exact hil)
                    subst hao
                    generalize N.getD i ByteArray.empty = s at hc
                    by_cases s1 : (1048576 : Int) < (s.size : Int)
                    · go_wp2
                      go_ret
                      exact tb2_yes
                    · by_cases s2 : (1048576 : Int) < z + (s.size : Int)
                      · go_wp2
                        go_ret
                        exact tb2_yes
                      · go_wp2
                        go_roundw
                        case rel => exact ⟨z + s.size, i + 1, rfl, by go_num, by omega, by omega, by omega, by trivial⟩
                        case measure => simp [intOf]; omega
                  · have hil' : ¬ (i : Int) < (m : Int) := by omega
                    go_wp2
                    go_loopw [15] (fun vi wx => vi = .int .i64 0 ∧ w = wx) (fun _ _ => 0)
                    case atStart => exact ⟨rfl, rfl⟩
                    case round =>
                      obtain ⟨rfl, rfl⟩ := hrel
                      go_wp2
                      go_ret
                      exact ⟨false, rfl, fun _ => hfin, rfl⟩
end Go.Proofs.Qxb6603449a.BL
