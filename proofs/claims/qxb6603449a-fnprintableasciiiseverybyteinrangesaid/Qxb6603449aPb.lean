import Derived.Test.Qxb6603449aPa
namespace Go.Proofs.Qxb6603449a.PA
open Go.RowKit
set_option linter.unusedVariables false

/-- Every byte below i is printable. -/
def Upto (s : ByteArray) (i : Nat) : Prop := ∀ j, j < i → In (at_ s j)
def PaPost (s : ByteArray) (w : World) (e : Ending) (w' : World) : Prop := ∃ b, e = .returned (.bool b) ∧ (b = true ↔ 0 < s.size ∧ Upto s s.size) ∧ ∃ n, w' = w.drewN n
theorem at_ext (s : ByteArray) (i j : Nat) (h : i + j < s.size) : at_ (s.extract i s.size) j = at_ s (i + j) := by
  have l : j < (s.extract i s.size).size := by rw [ByteArray.size_extract]; omega
  rw [← at_eq _ _ l, ← at_eq _ _ h]
  congr 1
  exact ByteArray.getElem_extract l
def W8 (s : ByteArray) : Nat := ofB [at_ s 0, at_ s 1, at_ s 2, at_ s 3, at_ s 4, at_ s 5, at_ s 6, at_ s 7]
theorem good8 (b0 b1 b2 b3 b4 b5 b6 b7 : Nat) (h0 : b0 < 256) (h1 : b1 < 256) (h2 : b2 < 256) (h3 : b3 < 256) (h4 : b4 < 256) (h5 : b5 < 256) (h6 : b6 < 256) (h7 : b7 < 256) :
    good 8 (ofB [b0, b1, b2, b3, b4, b5, b6, b7]) ↔ In b0 ∧ In b1 ∧ In b2 ∧ In b3 ∧ In b4 ∧ In b5 ∧ In b6 ∧ In b7 := by
  have := good_ofB [b0, b1, b2, b3, b4, b5, b6, b7] (by simp; omega)
  simpa using this
theorem W8_good (s : ByteArray) (i : Nat) (h : i + 8 ≤ s.size) : good 8 (W8 (s.extract i s.size)) ↔ ∀ j, i ≤ j → j < i + 8 → In (at_ s j) := by
  unfold W8
  rw [good8 _ _ _ _ _ _ _ _ (at_lt _ _) (at_lt _ _) (at_lt _ _) (at_lt _ _) (at_lt _ _) (at_lt _ _) (at_lt _ _) (at_lt _ _)]
  rw [at_ext s i 0 (by omega), at_ext s i 1 (by omega), at_ext s i 2 (by omega), at_ext s i 3 (by omega), at_ext s i 4 (by omega), at_ext s i 5 (by omega), at_ext s i 6 (by omega), at_ext s i 7 (by omega)]
  constructor
  · rintro ⟨a0, a1, a2, a3, a4, a5, a6, a7⟩ j hj1 hj2
    obtain ⟨d, rfl⟩ : ∃ d, j = i + d := ⟨j - i, by omega⟩
    have hd : d = 0 ∨ d = 1 ∨ d = 2 ∨ d = 3 ∨ d = 4 ∨ d = 5 ∨ d = 6 ∨ d = 7 := by omega
    rcases hd with rfl | rfl | rfl | rfl | rfl | rfl | rfl | rfl <;> assumption
  · intro a
    exact ⟨a _ (by omega) (by omega), a _ (by omega) (by omega), a _ (by omega) (by omega), a _ (by omega) (by omega), a _ (by omega) (by omega), a _ (by omega) (by omega), a _ (by omega) (by omega), a _ (by omega) (by omega)⟩
theorem word8_to (s : ByteArray) (X : Nat) (w : World) (h : 8 ≤ s.size) (hX : W8 s = X) :
    Calls Try.prog 34 #[.string s] w fun e w' => e = .returned (.int .u64 X) ∧ ∃ n, w' = w.drewN n := by
  subst hX; exact word8_any s w h
theorem more {w u v : World} (a : ∃ n, u = w.drewN n) (b : ∃ n, v = u.drewN n) : ∃ n, v = w.drewN n := by
  obtain ⟨n, rfl⟩ := a
  obtain ⟨m, rfl⟩ := b
  exact ⟨n + m, by rw [World.drewN_drewN]⟩

set_option maxHeartbeats 1000000 in
theorem pa_long (s : ByteArray) (w : World) (h8 : 8 ≤ s.size) (hm : s.size ≤ 1048576) :
    Calls Try.prog 29 #[.string s] w fun e w' => PaPost s w e w' := by
  have t8 : decide ((8 : Int) ≤ (s.size : Int)) = true := by simp only [decide_eq_true_eq]; omega
  go_enter Try.func29, Try.ntmps29
  go_wp2
  go_loopw [5] (fun vi wx => ∃ i : Nat, vi = .int .i64 i ∧ i ≤ s.size ∧ Hid (Upto s i) ∧ Hid (∃ n, wx = w.drewN n)) (fun vi _ => s.size - (intOf vi).toNat)
  case atStart => exact ⟨0, rfl, by omega, by unfold Hid Upto; intro j hj; omega, ⟨0, rfl⟩⟩
  case round =>
    obtain ⟨i, rfl, hi, hup, hwx⟩ := hrel
    by_cases hl : i ≤ s.size - 8
    · have m1 : (i : Int) ≤ (s.size : Int) - 8 := by omega
      have m2 : i ≤ s.size := by omega
      have m3 : 8 ≤ (s.extract i s.size).size := by rw [ByteArray.size_extract]; omega
      obtain ⟨X, hX⟩ : ∃ X, W8 (s.extract i s.size) = X := ⟨_, rfl⟩
      have hg := W8_good s i (by omega)
      rw [hX] at hg
      have HX : Hid _ := hX
      have HG : Hid _ := hg
      clear hX hg
      go_wp2_with fail
      refine (word8_to _ X _ m3 HX.out).mono ?_
      rintro e w1 ⟨rfl, hw1⟩
      have HW : Hid (∃ n, w1 = w.drewN n) := more hwx.out hw1
      clear hw1
      go_wp2_with fail
      refine (cl_any X _).mono ?_
      rintro e w2 ⟨b, rfl, hb, rfl⟩
      have HB : Hid _ := hb
      clear hb
      cases b
      · go_wp2
        go_ret
        exact ⟨false, rfl, by
          constructor
          · intro c; exact absurd c (by decide)
          · rintro ⟨_, u⟩
            exact HB.out.2 (HG.out.2 fun j _ hj2 => u j (by omega)), HW.out⟩
      · have hg2 := HG.out.1 (HB.out.1 rfl)
        have HU : Hid (Upto s (i + 8)) := by
          unfold Hid Upto; intro j hj
          by_cases c : j < i
          · exact hup.out j c
          · exact hg2 j (by omega) hj
        clear hg2
        by_cases he : i = s.size - 8
        · have he2 : ((i : Int) == (s.size : Int) - 8) = true := by simp only [beq_iff_eq]; omega
          have HE : Hid _ := he
          clear he
          go_wp2
          go_ret
          exact ⟨true, rfl, by
            have e : i + 8 = s.size := by have := HE.out; omega
            refine ⟨fun _ => ⟨by omega, ?_⟩, fun _ => rfl⟩
            rw [← e]; exact HU.out, HW.out⟩
        · have he2 : ((i : Int) == (s.size : Int) - 8) = false := by simp only [beq_eq_false_iff_ne]; omega
          have hlt : i + 8 ≤ s.size := by omega
          clear he
          go_wp2
          go_roundw
          case rel => exact ⟨i + 8, by go_num, by omega, HU, HW⟩
          case measure => simp [intOf]; omega
    · have m1 : ¬ (i : Int) ≤ (s.size : Int) - 8 := by omega
      obtain ⟨k, hk⟩ : ∃ k, k = s.size - 8 := ⟨_, rfl⟩
      have hk2 : (s.size : Int) - 8 = (k : Int) := by omega
      have m2 : k ≤ s.size := by omega
      have m3 : 8 ≤ (s.extract k s.size).size := by rw [ByteArray.size_extract]; omega
      obtain ⟨X, hX⟩ : ∃ X, W8 (s.extract k s.size) = X := ⟨_, rfl⟩
      have hg := W8_good s k (by omega)
      rw [hX] at hg
      have HX : Hid _ := hX
      have HG : Hid _ := hg
      have HK : Hid _ := hk
      clear hX hg hk
      go_wp2_with fail
      refine (word8_to _ X _ m3 HX.out).mono ?_
      rintro e w1 ⟨rfl, hw1⟩
      have HW : Hid (∃ n, w1 = w.drewN n) := more hwx.out hw1
      clear hw1
      go_wp2_with fail
      refine (cl_any X _).mono ?_
      rintro e w2 ⟨b, rfl, hb, rfl⟩
      have HB : Hid _ := hb
      clear hb
      cases b
      · go_wp2
        go_ret
        exact ⟨false, rfl, by
          constructor
          · intro c; exact absurd c (by decide)
          · rintro ⟨_, u⟩
            exact HB.out.2 (HG.out.2 fun j _ hj2 => u j (by have := HK.out; omega)), HW.out⟩
      · have hg2 := HG.out.1 (HB.out.1 rfl)
        have HU : Hid (Upto s (k + 8)) := by
          unfold Hid Upto; intro j hj
          by_cases c : j < i
          · exact hup.out j c
          · exact hg2 j (by have := HK.out; omega) hj
        clear hg2
        go_wp2
        go_ret
        exact ⟨true, rfl, by
          have e : k + 8 = s.size := by have := HK.out; omega
          refine ⟨fun _ => ⟨by omega, ?_⟩, fun _ => rfl⟩
          rw [← e]; exact HU.out, HW.out⟩
end Go.Proofs.Qxb6603449a.PA
