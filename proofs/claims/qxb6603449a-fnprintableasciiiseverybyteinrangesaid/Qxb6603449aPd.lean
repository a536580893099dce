import Derived.Test.Qxb6603449aPc
namespace Go.Proofs.Qxb6603449a.PA
open Go.RowKit
set_option linter.unusedVariables false

theorem pa_zero (s : ByteArray) (w : World) (h : s.size = 0) :
    Calls Try.prog 29 #[.string s] w fun e w' => PaPost s w e w' := by
  go_enter Try.func29, Try.ntmps29
  go_wp2
  go_ret
  exact ⟨false, rfl, ⟨fun c => absurd c (by decide), fun c => by omega⟩, 0, rfl⟩

theorem w3_walk (a b c : Nat) (ha : a < 256) (hb : b < 256) (hc : c < 256) :
    bits BinOp.or IntKind.u64 (bits BinOp.or IntKind.u64 (bits BinOp.or IntKind.u64 (IntKind.u64.wrap (a : Int)) (IntKind.u64.wrap (IntKind.u64.wrap (b : Int) * 256))) (IntKind.u64.wrap (IntKind.u64.wrap (c : Int) * 65536))) (IntKind.u64.wrap (IntKind.u64.wrap (a : Int) * 16777216))
      = ((ofB [a, b, c, a] : Nat) : Int) := by
  have e0 : IntKind.u64.wrap (a : Int) = (a : Int) := by rw [IntKind.wrap_u64]; omega
  have e1 := or64 24 (a + 256 * b + 65536 * c) a 16777216 16777216 rfl rfl (by omega) ha (by omega)
  rw [e0] at e1 ⊢
  rw [or64 8 _ _ 256 256 rfl rfl (by omega) hb (by omega), or64 16 _ _ 65536 65536 rfl rfl (by omega) hc (by omega), e1]
  simp only [ofB]; omega
theorem dbl_walk (X : Nat) (hx : X < 4294967296) :
    bits .or .u64 (X : Int) (IntKind.u64.wrap ((X : Int) * 4294967296)) = ((X + 4294967296 * X : Nat) : Int) := by
  have e2 : IntKind.u64.wrap ((X : Int) * 4294967296) = ((4294967296 * X : Nat) : Int) := by rw [IntKind.wrap_u64]; omega
  rw [e2, u64_or_nat _ _ (by omega) (by omega), Nat.or_comm, nat_join 32 _ _ (Nat.mul_mod_right _ _) hx, Nat.add_comm]
theorem short_walk (a b c : Nat) (ha : a < 256) (hb : b < 256) (hc : c < 256) :
    bits .or .u64 (bits BinOp.or IntKind.u64 (bits BinOp.or IntKind.u64 (bits BinOp.or IntKind.u64 (IntKind.u64.wrap (a : Int)) (IntKind.u64.wrap (IntKind.u64.wrap (b : Int) * 256))) (IntKind.u64.wrap (IntKind.u64.wrap (c : Int) * 65536))) (IntKind.u64.wrap (IntKind.u64.wrap (a : Int) * 16777216)))
      (IntKind.u64.wrap (bits BinOp.or IntKind.u64 (bits BinOp.or IntKind.u64 (bits BinOp.or IntKind.u64 (IntKind.u64.wrap (a : Int)) (IntKind.u64.wrap (IntKind.u64.wrap (b : Int) * 256))) (IntKind.u64.wrap (IntKind.u64.wrap (c : Int) * 65536))) (IntKind.u64.wrap (IntKind.u64.wrap (a : Int) * 16777216)) * 4294967296))
      = ((ofB [a, b, c, a, a, b, c, a] : Nat) : Int) := by
  rw [w3_walk a b c ha hb hc, dbl_walk _ (by simp only [ofB]; omega)]
  simp only [ofB]; omega
theorem short_good (a b c : Nat) (ha : a < 256) (hb : b < 256) (hc : c < 256) : gb (ofB [a, b, c, a, a, b, c, a]) = true ↔ In a ∧ In b ∧ In c := by
  have h : gb (ofB [a, b, c, a, a, b, c, a]) = true ↔ good 8 (ofB [a, b, c, a, a, b, c, a]) := cl_walk _
  rw [h, good8 a b c a a b c a ha hb hc ha ha hb hc ha]
  constructor
  · rintro ⟨x, y, z, _⟩; exact ⟨x, y, z⟩
  · rintro ⟨x, y, z⟩; exact ⟨x, y, z, x, x, y, z, x⟩

set_option maxHeartbeats 1000000 in
theorem pa_1 (s : ByteArray) (w : World) (h : s.size = 1) :
    Calls Try.prog 29 #[.string s] w fun e w' => PaPost s w e w' := by
  have l0 : (0 : Nat) < s.size := by omega
  have hw := short_walk s[0].toNat s[0].toNat s[0].toNat (UInt8.toNat_lt _) (UInt8.toNat_lt _) (UInt8.toNat_lt _)
  have hg := short_good s[0].toNat s[0].toNat s[0].toNat (UInt8.toNat_lt _) (UInt8.toNat_lt _) (UInt8.toNat_lt _)
  obtain ⟨Z, hZ⟩ : ∃ Z, ofB [s[0].toNat, s[0].toNat, s[0].toNat, s[0].toNat, s[0].toNat, s[0].toNat, s[0].toNat, s[0].toNat] = Z := ⟨_, rfl⟩
  rw [hZ] at hw hg
  obtain ⟨B, hB⟩ : ∃ B, gb Z = B := ⟨_, rfl⟩
  rw [hB, at_eq s 0 l0] at hg
  have HW : Hid _ := hw
  have HG : Hid _ := hg
  have HB : Hid _ := hB
  clear hw hg hB hZ
  go_enter Try.func29, Try.ntmps29
  go_wp2
  go_quiet (fail)
  go_wp2_with fail
  refine (cl_to _ Z B _ HW.out HB.out).mono ?_
  rintro e w1 ⟨rfl, hw1⟩
  rw [hw1]
  clear hw1 w1
  go_wp2
  go_ret
  refine ⟨B, rfl, ⟨fun c => ⟨by omega, ?_⟩, fun c => ?_⟩, _, rfl⟩
  · have g := HG.out.1 c
    intro q hq
    have hd : q = 0 := by omega
    rcases hd with rfl
    · exact g.1
  · exact HG.out.2 ⟨c.2 0 (by omega), c.2 0 (by omega), c.2 0 (by omega)⟩
set_option maxHeartbeats 1000000 in
theorem pa_2 (s : ByteArray) (w : World) (h : s.size = 2) :
    Calls Try.prog 29 #[.string s] w fun e w' => PaPost s w e w' := by
  have l0 : (0 : Nat) < s.size := by omega
  have l1 : (1 : Nat) < s.size := by omega
  have hw := short_walk s[0].toNat s[1].toNat s[1].toNat (UInt8.toNat_lt _) (UInt8.toNat_lt _) (UInt8.toNat_lt _)
  have hg := short_good s[0].toNat s[1].toNat s[1].toNat (UInt8.toNat_lt _) (UInt8.toNat_lt _) (UInt8.toNat_lt _)
  obtain ⟨Z, hZ⟩ : ∃ Z, ofB [s[0].toNat, s[1].toNat, s[1].toNat, s[0].toNat, s[0].toNat, s[1].toNat, s[1].toNat, s[0].toNat] = Z := ⟨_, rfl⟩
  rw [hZ] at hw hg
  obtain ⟨B, hB⟩ : ∃ B, gb Z = B := ⟨_, rfl⟩
  rw [hB, at_eq s 0 l0, at_eq s 1 l1] at hg
  have HW : Hid _ := hw
  have HG : Hid _ := hg
  have HB : Hid _ := hB
  clear hw hg hB hZ
  go_enter Try.func29, Try.ntmps29
  go_wp2
  go_quiet (fail)
  go_wp2_with fail
  refine (cl_to _ Z B _ HW.out HB.out).mono ?_
  rintro e w1 ⟨rfl, hw1⟩
  rw [hw1]
  clear hw1 w1
  go_wp2
  go_ret
  refine ⟨B, rfl, ⟨fun c => ⟨by omega, ?_⟩, fun c => ?_⟩, _, rfl⟩
  · have g := HG.out.1 c
    intro q hq
    have hd : q = 0 ∨ q = 1 := by omega
    rcases hd with rfl | rfl
    · exact g.1
    · exact g.2.1
  · exact HG.out.2 ⟨c.2 0 (by omega), c.2 1 (by omega), c.2 1 (by omega)⟩
set_option maxHeartbeats 1000000 in
theorem pa_3 (s : ByteArray) (w : World) (h : s.size = 3) :
    Calls Try.prog 29 #[.string s] w fun e w' => PaPost s w e w' := by
  have l0 : (0 : Nat) < s.size := by omega
  have l1 : (1 : Nat) < s.size := by omega
  have l2 : (2 : Nat) < s.size := by omega
  have hw := short_walk s[0].toNat s[1].toNat s[2].toNat (UInt8.toNat_lt _) (UInt8.toNat_lt _) (UInt8.toNat_lt _)
  have hg := short_good s[0].toNat s[1].toNat s[2].toNat (UInt8.toNat_lt _) (UInt8.toNat_lt _) (UInt8.toNat_lt _)
  obtain ⟨Z, hZ⟩ : ∃ Z, ofB [s[0].toNat, s[1].toNat, s[2].toNat, s[0].toNat, s[0].toNat, s[1].toNat, s[2].toNat, s[0].toNat] = Z := ⟨_, rfl⟩
  rw [hZ] at hw hg
  obtain ⟨B, hB⟩ : ∃ B, gb Z = B := ⟨_, rfl⟩
  rw [hB, at_eq s 0 l0, at_eq s 1 l1, at_eq s 2 l2] at hg
  have HW : Hid _ := hw
  have HG : Hid _ := hg
  have HB : Hid _ := hB
  clear hw hg hB hZ
  go_enter Try.func29, Try.ntmps29
  go_wp2
  go_quiet (fail)
  go_wp2_with fail
  refine (cl_to _ Z B _ HW.out HB.out).mono ?_
  rintro e w1 ⟨rfl, hw1⟩
  rw [hw1]
  clear hw1 w1
  go_wp2
  go_ret
  refine ⟨B, rfl, ⟨fun c => ⟨by omega, ?_⟩, fun c => ?_⟩, _, rfl⟩
  · have g := HG.out.1 c
    intro q hq
    have hd : q = 0 ∨ q = 1 ∨ q = 2 := by omega
    rcases hd with rfl | rfl | rfl
    · exact g.1
    · exact g.2.1
    · exact g.2.2
  · exact HG.out.2 ⟨c.2 0 (by omega), c.2 1 (by omega), c.2 2 (by omega)⟩

theorem pa_any (s : ByteArray) (w : World) (hm : s.size ≤ 1048576) :
    Calls Try.prog 29 #[.string s] w fun e w' => PaPost s w e w' := by
  by_cases h8 : 8 ≤ s.size
  · exact pa_long s w h8 hm
  · by_cases h4 : 4 ≤ s.size
    · exact pa_mid s w h4 (by omega)
    · have hd : s.size = 0 ∨ s.size = 1 ∨ s.size = 2 ∨ s.size = 3 := by omega
      rcases hd with h | h | h | h
      · exact pa_zero s w h
      · exact pa_1 s w h
      · exact pa_2 s w h
      · exact pa_3 s w h
end Go.Proofs.Qxb6603449a.PA
