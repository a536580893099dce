import Derived.Test.Qxb6603449aRk
namespace Go.Proofs.Qxb6603449a.BL
open Go.RowKit Go.ChangeMaps
set_option linter.unusedVariables false
set_option linter.unusedSimpArgs false

/-! ### zzBytes: it answers -/
def Zb2 (w : World) (e : Ending) (w' : World) : Prop := ∃ b, e = .returned (.bool b) ∧ w = w'
set_option maxRecDepth 100000 in
set_option maxHeartbeats 8000000 in
theorem zb2_any (E : Ed) (N : List St) (name : St) (ae ao av : Option Addr) (n m k c0 c1 c2 : Nat) (w : World) (hn : E.length = n) (hm : N.length = m) (hnm : n ≤ maxLen) (hmm : m ≤ maxLen) (hkm : k ≤ maxLen) (hre : EdRd w ae E) (hrn : StrRd w ao N) :
    Calls Try.prog 19 #[.slice ae n c0, .slice ao m c1, .slice av k c2, .string name] w fun e w' => Zb2 w e w' := by
  have HRE : Hid (EdRd w ae E) := hre
  have HRN : Hid (StrRd w ao N) := hrn
  have HN : Hid _ := hn
  have HM : Hid _ := hm
  clear hre hrn hn hm
  by_cases t1 : (1048576 : Int) < (n : Int)
  · go_enter Try.func19, Try.ntmps19
    go_wp2
    go_ret
    exact ⟨false, rfl, rfl⟩
  · go_enter Try.func19, Try.ntmps19
    go_wp2
    go_loopw [9, 10] (fun vz vi wx => ∃ (z : Int) (i : Nat), vz = .int .i64 z ∧ vi = .int .i64 i ∧ i ≤ n ∧ 0 ≤ z ∧ z ≤ 1048576 ∧ w = wx) (fun _ vi _ => n - (intOf vi).toNat)
    case atStart => exact ⟨n, 0, rfl, rfl, by omega, by omega, by omega, rfl⟩
    case round =>
      obtain ⟨z, i, rfl, rfl, hi, hz0, hz1, rfl⟩ := hrel
      by_cases hil : i < n
      · have hil' : (i : Int) < (n : Int) := by omega
        obtain ⟨b, off, hao, hbl, hc0, hc1⟩ := HRE.out.at_ (i := i) (by rw [HN.out]; exact hil)
        subst hao
        generalize ek E i = s0 at hc0
        generalize eg E i = s1 at hc1
        go_wp2
        go_loopw [9, 11] (fun vz vj wx => ∃ (z : Int) (j : Nat), vz = .int .i64 z ∧ vj = .int .i64 j ∧ j ≤ 2 ∧ 0 ≤ z ∧ z ≤ 1048576 ∧ w = wx) (fun _ vj _ => 2 - (intOf vj).toNat)
        case atStart => exact ⟨z, 0, rfl, rfl, by omega, by omega, by omega, rfl⟩
        case round =>
          clear hz0 hz1
          obtain ⟨z, j, rfl, rfl, hj, hz0, hz1, rfl⟩ := hrel
          have hj3 : j = 0 ∨ j = 1 ∨ j = 2 := by omega
          rcases hj3 with rfl | rfl | rfl
          · by_cases u1 : (1048576 : Int) < (s0.size : Int)
            · go_wp2
              go_ret
              exact ⟨false, rfl, rfl⟩
            · by_cases u2 : (1048576 : Int) < z + (s0.size : Int)
              · go_wp2
                go_ret
                exact ⟨false, rfl, rfl⟩
              · go_wp2
                go_roundw
                case rel => exact ⟨z + s0.size, 1, rfl, by go_num, by omega, by omega, by omega, by trivial⟩
                case measure => simp [intOf]
          · by_cases u1 : (1048576 : Int) < (s1.size : Int)
            · go_wp2
              go_ret
              exact ⟨false, rfl, rfl⟩
            · by_cases u2 : (1048576 : Int) < z + (s1.size : Int)
              · go_wp2
                go_ret
                exact ⟨false, rfl, rfl⟩
              · go_wp2
                go_roundw
                case rel => exact ⟨z + s1.size, 2, rfl, by go_num, by omega, by omega, by omega, by trivial⟩
                case measure => simp [intOf]
          · go_wp2
            go_roundw
            case rel => exact ⟨z, i + 1, rfl, by go_num, by omega, by omega, by omega, by trivial⟩
            case measure => simp [intOf]; omega
      · have hil' : ¬ (i : Int) < (n : Int) := by omega
        by_cases t2 : (1048576 : Int) < (m : Int)
        · go_wp2
          go_ret
          exact ⟨false, rfl, rfl⟩
        · by_cases t3 : (1048576 : Int) < z + (m : Int)
          · go_wp2
            go_ret
            exact ⟨false, rfl, rfl⟩
          · go_wp2
            go_loopw [9, 12] (fun vz vi wx => ∃ (z : Int) (i : Nat), vz = .int .i64 z ∧ vi = .int .i64 i ∧ i ≤ m ∧ 0 ≤ z ∧ z ≤ 1048576 ∧ w = wx) (fun _ vi _ => m - (intOf vi).toNat)
            case atStart => exact ⟨z + m, 0, rfl, rfl, by omega, by omega, by omega, rfl⟩
            case round =>
              clear hz0 hz1 t3
              obtain ⟨z, i, rfl, rfl, hi, hz0, hz1, rfl⟩ := hrel
              by_cases hil : i < m
              · have hil' : (i : Int) < (m : Int) := by omega
                obtain ⟨b, off, hao, hbl, hc⟩ := HRN.out.at_ (i := i) (by rw [HM.out]; exact hil)
                subst hao
                generalize N.getD i ByteArray.empty = s at hc
                by_cases s1 : (1048576 : Int) < (s.size : Int)
                · go_wp2
                  go_ret
                  exact ⟨false, rfl, rfl⟩
                · by_cases s2 : (1048576 : Int) < z + (s.size : Int)
                  · go_wp2
                    go_ret
                    exact ⟨false, rfl, rfl⟩
                  · go_wp2
                    go_roundw
                    case rel => exact ⟨z + s.size, i + 1, rfl, by go_num, by omega, by omega, by omega, by trivial⟩
                    case measure => simp [intOf]; omega
              · have hil' : ¬ (i : Int) < (m : Int) := by omega
                by_cases s1 : (1048576 : Int) < (k : Int)
                · go_wp2
                  go_ret
                  exact ⟨false, rfl, rfl⟩
                · by_cases s2 : (1048576 : Int) < z + (k : Int)
                  · go_wp2
                    go_ret
                    exact ⟨false, rfl, rfl⟩
                  · by_cases s3 : (1048576 : Int) < (name.size : Int)
                    · go_wp2
                      go_ret
                      exact ⟨false, rfl, rfl⟩
                    · by_cases s4 : (1048576 : Int) < z + (k : Int) + (name.size : Int)
                      · go_wp2
                        go_ret
                        exact ⟨false, rfl, rfl⟩
                      · go_wp2
                        go_ret
                        exact ⟨true, rfl, rfl⟩
end Go.Proofs.Qxb6603449a.BL
