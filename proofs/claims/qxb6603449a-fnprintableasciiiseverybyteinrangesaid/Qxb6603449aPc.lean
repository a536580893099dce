import Derived.Test.Qxb6603449aPb
namespace Go.Proofs.Qxb6603449a.PA
open Go.RowKit
set_option linter.unusedVariables false

def gb (x : Nat) : Bool := (bits BinOp.and IntKind.u64 (bits BinOp.or IntKind.u64 (IntKind.u64.wrap (↑x + 72340172838076673)) (IntKind.u64.wrap (↑x - 2314885530818453536))) 9259542123273814144 == 0)
theorem cl_to (z : Int) (x : Nat) (B : Bool) (w : World) (hz : z = (x : Int)) (hB : gb x = B) :
    Calls Try.prog 33 #[.int .u64 z] w fun e w' => e = .returned (.bool B) ∧ w' = w := by
  subst hz hB
  go_enter Try.func33, Try.ntmps33
  go_wp2
  go_ret
  exact ⟨rfl, rfl⟩
def W4 (s : ByteArray) : Nat := ofB [at_ s 0, at_ s 1, at_ s 2, at_ s 3]
theorem word4_to (s : ByteArray) (X : Int) (w : World) (h : 4 ≤ s.size) (hX : ((W4 s : Nat) : Int) = X) :
    Calls Try.prog 35 #[.string s] w fun e w' => e = .returned (.int .u32 X) ∧ ∃ n, w' = w.drewN n := by
  subst hX; exact word4_any s w h
theorem W4_lt (s : ByteArray) : W4 s < 4294967296 := by
  have := at_lt s 0; have := at_lt s 1; have := at_lt s 2; have := at_lt s 3
  unfold W4; simp only [ofB]; omega
theorem two_walk (X Y : Nat) (hx : X < 4294967296) (hy : Y < 4294967296) :
    bits .or .u64 (IntKind.u64.wrap (X : Int)) (IntKind.u64.wrap (IntKind.u64.wrap (Y : Int) * 4294967296)) = ((X + 4294967296 * Y : Nat) : Int) := by
  have e1 : IntKind.u64.wrap (X : Int) = (X : Int) := by rw [IntKind.wrap_u64]; omega
  have e2 : IntKind.u64.wrap (IntKind.u64.wrap (Y : Int) * 4294967296) = ((4294967296 * Y : Nat) : Int) := by rw [IntKind.wrap_u64, IntKind.wrap_u64]; omega
  rw [e1, e2, u64_or_nat _ _ (by omega) (by omega), Nat.or_comm, nat_join 32 _ _ (Nat.mul_mod_right _ _) hx, Nat.add_comm]
theorem two_good (s : ByteArray) (h : 4 ≤ s.size) (h8 : s.size < 8) : good 8 (W4 s + 4294967296 * W4 (s.extract (s.size - 4) s.size)) ↔ Upto s s.size := by
  have e : W4 s + 4294967296 * W4 (s.extract (s.size - 4) s.size) = ofB [at_ s 0, at_ s 1, at_ s 2, at_ s 3, at_ s (s.size - 4 + 0), at_ s (s.size - 4 + 1), at_ s (s.size - 4 + 2), at_ s (s.size - 4 + 3)] := by
    unfold W4
    rw [at_ext s _ 0 (by omega), at_ext s _ 1 (by omega), at_ext s _ 2 (by omega), at_ext s _ 3 (by omega)]
    simp only [ofB]; omega
  rw [e, good8 _ _ _ _ _ _ _ _ (at_lt _ _) (at_lt _ _) (at_lt _ _) (at_lt _ _) (at_lt _ _) (at_lt _ _) (at_lt _ _) (at_lt _ _)]
  constructor
  · rintro ⟨a0, a1, a2, a3, a4, a5, a6, a7⟩ j hj
    have hd : j = 0 ∨ j = 1 ∨ j = 2 ∨ j = 3 ∨ j = s.size - 4 + 0 ∨ j = s.size - 4 + 1 ∨ j = s.size - 4 + 2 ∨ j = s.size - 4 + 3 := by omega
    rcases hd with rfl | rfl | rfl | rfl | rfl | rfl | rfl | rfl <;> assumption
  · intro a
    exact ⟨a _ (by omega), a _ (by omega), a _ (by omega), a _ (by omega), a _ (by omega), a _ (by omega), a _ (by omega), a _ (by omega)⟩

set_option maxHeartbeats 1000000 in
theorem pa_mid (s : ByteArray) (w : World) (h4 : 4 ≤ s.size) (h8 : s.size < 8) :
    Calls Try.prog 29 #[.string s] w fun e w' => PaPost s w e w' := by
  obtain ⟨k, hk⟩ : ∃ k, k = s.size - 4 := ⟨_, rfl⟩
  obtain ⟨Z, hZ⟩ : ∃ Z, W4 s + 4294967296 * W4 (s.extract k s.size) = Z := ⟨_, rfl⟩
  have hg := two_good s h4 h8
  rw [← hk, hZ] at hg
  have hw := two_walk (W4 s) (W4 (s.extract k s.size)) (W4_lt _) (W4_lt _)
  rw [hZ] at hw
  obtain ⟨X, hX⟩ : ∃ X, ((W4 s : Nat) : Int) = X := ⟨_, rfl⟩
  obtain ⟨Y, hY⟩ : ∃ Y, ((W4 (s.extract k s.size) : Nat) : Int) = Y := ⟨_, rfl⟩
  rw [hX, hY] at hw
  obtain ⟨B, hB⟩ : ∃ B, gb Z = B := ⟨_, rfl⟩
  have hb : B = true ↔ good 8 Z := by rw [← hB]; exact cl_walk _
  rw [hg] at hb
  clear hZ
  have m3 : 4 ≤ (s.extract k s.size).size := by rw [ByteArray.size_extract]; omega
  have hk2 : ((s.size : Int) - 4).toNat = k := by omega
  have hk3 : ¬ ((s.size : Int) - 4 < 0) := by omega
  have m2 : k ≤ s.size := by omega
  have HX : Hid _ := hX
  have HY : Hid _ := hY
  have HB : Hid _ := hB
  have HC : Hid _ := hb
  have HWK : Hid _ := hw
  have HK : Hid _ := hk
  clear hX hY hg hw hB hb hk
  have t8 : decide ((8 : Int) ≤ (s.size : Int)) = false := by simp only [decide_eq_false_iff_not]; omega
  have t4 : decide ((4 : Int) ≤ (s.size : Int)) = true := by simp only [decide_eq_true_eq]; omega
  go_enter Try.func29, Try.ntmps29
  go_wp2
  go_quiet ((first | (go_at_call 35; exact Calls.quiet_of (word4_to _ _ _ (by first | with_reducible exact h4 | with_reducible exact m3) (by first | with_reducible exact HX.out | with_reducible exact HY.out))) | (go_at_call 33; exact Calls.quiet_of_same (cl_to _ _ B _ HWK.out HB.out))))
  go_wp2
  go_ret
  exact ⟨B, rfl, ⟨fun h => ⟨by omega, HC.out.1 h⟩, fun h => HC.out.2 h.2⟩, _, rfl⟩
end Go.Proofs.Qxb6603449a.PA
