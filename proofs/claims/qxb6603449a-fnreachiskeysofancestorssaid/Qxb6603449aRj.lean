import Derived.Test.Qxb6603449aRi
namespace Go.Proofs.Qxb6603449a.BL
open Go.RowKit Go.ChangeMaps Go.MapKept
set_option linter.unusedVariables false
set_option linter.unusedSimpArgs false

/-! ### Sort and Compact of nil -/
set_option maxHeartbeats 1000000 in
theorem ins_nil (w : World) : Calls Try.prog 43 #[.slice none 0 0, .int .i64 0, .int .i64 0] w fun e w' => e = .returned (.tuple #[]) ∧ w' = w := by
  go_enter Try.func43, Try.ntmps43
  go_wp2
  go_loopw [6] (fun v4 wx => v4 = .int .i64 1 ∧ wx = w) (fun _ _ => 0)
  case atStart => exact ⟨rfl, rfl⟩
  case round =>
    obtain ⟨rfl, rfl⟩ := hrel
    go_wp2
    go_end0
    exact ⟨rfl, rfl⟩
set_option maxHeartbeats 1000000 in
theorem pdq_nil (k : Int) (w : World) : Calls Try.prog 41 #[.slice none 0 0, .int .i64 0, .int .i64 0, .int .i64 k] w fun e w' => e = .returned (.tuple #[]) ∧ w' = w := by
  go_enter Try.func41, Try.ntmps41
  go_wp2
  go_loopw [1, 2, 3, 8, 9] (fun v1 v2 v3 v8 v9 wx => ∃ (L : Int) (x y : Bool), v1 = .int .i64 0 ∧ v2 = .int .i64 0 ∧ v3 = .int .i64 L ∧ v8 = .bool x ∧ v9 = .bool y ∧ wx = w) (fun _ _ _ _ _ _ => 0)
  case atStart => exact ⟨k, true, true, rfl, rfl, rfl, rfl, rfl, rfl⟩
  case round =>
    obtain ⟨L, x, y, rfl, rfl, rfl, rfl, rfl, rfl⟩ := hrel
    go_wp2_with fail
    refine (ins_nil _).mono ?_
    rintro e1 w1 ⟨rfl, rfl⟩
    go_wp2
    refine bodyPost_ret (v := .tuple #[]) (results_none rfl _ _ _) rfl ?_
    exact ⟨rfl, rfl⟩
theorem sort_nil (w : World) : Calls Try.prog 38 #[.slice none 0 0] w fun e w' => e = .returned (.tuple #[]) ∧ w' = w := by
  go_enter Try.func38, Try.ntmps38
  go_wp2_with fail
  refine (Try.bits_Len 0 w (by omega) (by omega)).mono ?_
  rintro e w' ⟨rfl, rfl⟩
  go_wp2_with fail
  refine (pdq_nil _ _).mono ?_
  rintro e w2 ⟨rfl, rfl⟩
  go_wp2
  go_end0
  exact ⟨rfl, rfl⟩
theorem compact_nil (w : World) : Calls Try.prog 39 #[.slice none 0 0] w fun e w' => e = .returned (.slice none 0 0) ∧ w' = w := by
  go_enter Try.func39, Try.ntmps39
  go_wp2
  go_ret
  exact ⟨rfl, rfl⟩
end Go.Proofs.Qxb6603449a.BL
