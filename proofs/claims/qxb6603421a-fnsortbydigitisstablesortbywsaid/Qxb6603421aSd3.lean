import Derived.Test.Qxb6603421aSd2
namespace Go.Proofs.Qxb6603421a.SD
open Go.RowKit
set_option linter.unusedVariables false
set_option linter.unusedSimpArgs false

theorem take_ext (K M : List Ky) (hl : K.length = M.length) (h : K.take K.length = M.take K.length) : K = M := by
  rw [List.take_length] at h
  rw [hl, List.take_length] at h; exact h
theorem take_step (K M : List Ky) (k : Nat) (hk : k < K.length) (hm : k < M.length) (h : K.take k = M.take k) (e : K.getD k (0, 0) = M.getD k (0, 0)) : K.take (k + 1) = M.take (k + 1) := by
  rw [List.take_succ_eq_append_getElem hk, List.take_succ_eq_append_getElem hm, h]
  have a : K.getD k (0, 0) = K[k] := by simp [hk]
  have b : M.getD k (0, 0) = M[k] := by simp [hm]
  rw [← a, ← b, e]

theorem under60 : Try.prog.underlying 60 = some (.struct (Try.prog.fieldsOf 60)) := by kernel_rfl
theorem stood60 : Try.prog.stoodInHeld 60 = false := by kernel_rfl
theorem guard60 : Try.prog.eqGuardType Try.prog.depth 60 = false := by kernel_rfl
theorem eq60 (x1 y1 x2 y2 : Int) (w : World) : (Op.equalIn 10000 60 (.agg #[.int .u64 x1, .int .i64 x2]) (.agg #[.int .u64 y1, .int .i64 y2])).run Try.prog w = .ok (x1 == y1 && x2 == y2) w := by
  rw [run_equalIn_struct w _ 60 _ _ under60 stood60]
  simp only [Program.fieldsOf, Try.underlying60]
  simp [go_sem, Op.eqFields, part]
  by_cases h1 : x1 = y1 <;> by_cases h2 : x2 = y2 <;> simp [h1, h2]
theorem eq60_yes (x1 x2 : Int) (w : World) : (Op.equalIn 10000 60 (.agg #[.int .u64 x1, .int .i64 x2]) (.agg #[.int .u64 x1, .int .i64 x2])).run Try.prog w = .ok true w := by
  rw [eq60]; simp
theorem eq60_no (x1 y1 : Nat) (x2 y2 : Int) (h : ((x1, x2) : Ky) ≠ (y1, y2)) (w : World) : (Op.equalIn 10000 60 (.agg #[.int .u64 (x1 : Int), .int .i64 x2]) (.agg #[.int .u64 (y1 : Int), .int .i64 y2])).run Try.prog w = .ok false w := by
  rw [eq60]
  congr 1
  by_cases h1 : x1 = y1
  · by_cases h2 : x2 = y2
    · exact absurd (by rw [h1, h2]) h
    · simp [h2]
  · have : ((x1 : Int) == (y1 : Int)) = false := by simp; omega
    rw [this]; rfl

set_option maxHeartbeats 800000 in
theorem same_any (a1 a2 : Option Addr) (cap1 cap2 : Nat) (K M : List Ky) (w : World) (hl : K.length ≤ 1048576) (hl2 : M.length ≤ 1048576) (hr : Rd w a1 K) (hr2 : Rd w a2 M) :
    Calls Try.prog 14 #[.slice a1 K.length cap1, .slice a2 M.length cap2] w fun e w' => e = .returned (.bool (decide (K = M))) ∧ ∃ n, w' = w.drewN n := by
  obtain ⟨R, hR⟩ : ∃ R, R = decide (K = M) := ⟨_, rfl⟩
  rw [← hR]
  have HR : Hid _ := hr
  have HR2 : Hid _ := hr2
  by_cases hlen : K.length = M.length
  · have hne : ((K.length : Int) != (M.length : Int)) = false := by rw [hlen]; simp
    have HL : Hid _ := hlen
    have hle : K.length ≤ M.length := by omega
    have HRR : Hid _ := hR
    clear hr hr2 hR hlen
    go_enter Try.func14, Try.ntmps14
    go_wp2
    go_loopw [5] (fun i wr => ∃ k n : Nat, i = .int .i64 k ∧ k ≤ K.length ∧ wr = w.drewN n ∧ Hid (K.take k = M.take k)) (fun i _ => K.length - (intOf i).toNat)
    case atStart => exact ⟨0, 0, rfl, Nat.zero_le _, rfl, rfl⟩
    case round =>
      obtain ⟨k, n, rfl, hk, rfl, ht⟩ := hrel
      by_cases hlt : k < K.length
      · rcases HR.out with h | ⟨b, off, rfl, hbl, hc⟩
        · rw [h] at hlt; simp at hlt
        · rcases HR2.out with h | ⟨b2, off2, rfl, hbl2, hc2⟩
          · exfalso; rw [h] at hle; simp only [List.length_nil] at hle; omega
          · obtain ⟨c1, c2⟩ := hc k hlt
            obtain ⟨d1, d2⟩ := hc2 k (by omega)
            obtain ⟨x, hx⟩ : ∃ x, x = K.getD k (0, 0) := ⟨_, rfl⟩
            obtain ⟨y, hy⟩ : ∃ y, y = M.getD k (0, 0) := ⟨_, rfl⟩
            rw [← hx] at c1 c2
            rw [← hy] at d1 d2
            have HX : Hid _ := hx
            have HY : Hid _ := hy
            obtain ⟨x1, x2⟩ := x
            obtain ⟨y1, y2⟩ := y
            simp only at c1 c2 d1 d2
            clear hc hc2 hx hy
            have i1 : (k : Int) < (K.length : Int) := by omega
            have i2 : (k : Int) < (M.length : Int) := by omega
            have hgd := guard60
            by_cases heq : ((x1, x2) : Ky) = (y1, y2)
            · have e1 : x1 = y1 := congrArg Prod.fst heq
              have e2 : x2 = y2 := congrArg Prod.snd heq
              have ht2 := take_step K M k hlt (by omega) ht.out (by rw [← HX.out, ← HY.out]; exact heq)
              subst e1 e2
              have HT2 : Hid _ := ht2
              have q := eq60_yes (x1 : Int) x2
              clear heq ht2
              go_wp2
              go_quiet (fail)
              go_wp2
              go_roundw
              case rel => exact ⟨k + 1, _, by go_num, by omega, rfl, HT2⟩
              case measure => simp [intOf]; omega
            · have hf : R = false := by
                rw [HRR.out]; simp only [decide_eq_false_iff_not]
                intro e; subst e; exact heq (by rw [HX.out, HY.out])
              subst hf
              have q := eq60_no x1 y1 x2 y2 heq
              clear heq
              go_wp2
              go_quiet (fail)
              go_wp2
              go_ret
              exact ⟨rfl, by simp only [World.drewN_drewN]; exact ⟨_, rfl⟩⟩
      · have hf : R = true := by
          rw [HRR.out]; simp only [decide_eq_true_eq]
          have := ht.out
          rw [show k = K.length from by omega] at this
          exact take_ext K M HL.out this
        subst hf
        go_wp2
        go_ret
        exact ⟨rfl, n, rfl⟩
  · have hf : R = false := by rw [hR]; simp only [decide_eq_false_iff_not]; intro e; exact hlen (by rw [e])
    subst hf
    have hne : ((K.length : Int) != (M.length : Int)) = true := by simp; omega
    clear hR hlen hr hr2
    go_enter Try.func14, Try.ntmps14
    go_wp2
    go_ret
    exact ⟨rfl, 0, rfl⟩
end Go.Proofs.Qxb6603421a.SD
