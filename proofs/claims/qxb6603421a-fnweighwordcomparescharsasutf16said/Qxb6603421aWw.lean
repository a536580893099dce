import Derived.Test.Qxb6603421aProg
import Derived.Test.Qxb6603421aWord
import Derived.WalkKit
import Derived.WalkLawsBesides
namespace Go.Proofs.Qxb6603421a.WW
open Go.RowKit

theorem ret_int {k : IntKind} {a b : Int} (h : a = b) : Ending.returned (.int k a) = .returned (.int k b) := by rw [h]

/-! ### The words in the walk's own spelling -/
theorem wrapN (n : Nat) : IntKind.u64.wrap (n : Int) = ((n % 18446744073709551616 : Nat) : Int) := by rw [IntKind.wrap_u64]; omega
theorem lit (n : Nat) : ((OfNat.ofNat n : Int)) = ((OfNat.ofNat n : Nat) : Int) := rfl
theorem mulN (n : Nat) (k : Nat) : ((n : Int) * (k : Int)) = ((k * n : Nat) : Int) := by rw [Nat.mul_comm]; exact (Int.natCast_mul n k).symm

theorem high_lt (x : Nat) : high x < 18446744073709551616 := by
  unfold high
  exact Nat.lt_of_le_of_lt Nat.and_le_right (by decide)
theorem high_walk (x : Nat) (h : x < 18446744073709551616) :
    bits .and .u64 (bits .and .u64 (bits .and .u64 (x : Int) (IntKind.u64.wrap ((x : Int) * 2))) (IntKind.u64.wrap ((x : Int) * 4))) 9259542123273814144 = ((high x : Nat) : Int) := by
  have e2 : IntKind.u64.wrap ((x : Int) * 2) = ((2 * x % 18446744073709551616 : Nat) : Int) := by rw [IntKind.wrap_u64]; omega
  have e4 : IntKind.u64.wrap ((x : Int) * 4) = ((4 * x % 18446744073709551616 : Nat) : Int) := by rw [IntKind.wrap_u64]; omega
  have ek : (9259542123273814144 : Int) = ((9259542123273814144 : Nat) : Int) := rfl
  rw [e2, e4, ek, u64_and_nat _ _ h (by omega), u64_and_nat _ _ (Nat.lt_of_le_of_lt Nat.and_le_left h) (by omega), u64_and_nat _ _ (Nat.lt_of_le_of_lt Nat.and_le_left (Nat.lt_of_le_of_lt Nat.and_le_left h)) (by decide)]
  rfl
theorem opens_walk (x : Nat) (h : x < 18446744073709551616) :
    bits .andNot .u64 ((high x : Nat) : Int) (IntKind.u64.wrap (bits .xor .u64 (bits .and .u64 (x : Int) 2170205185142300190) 1012762419733073422 + 9187201950435737471)) = ((opensW x : Nat) : Int) := by
  have k1 : (2170205185142300190 : Int) = ((2170205185142300190 : Nat) : Int) := rfl
  have k2 : (1012762419733073422 : Int) = ((1012762419733073422 : Nat) : Int) := rfl
  have b1 : x &&& 2170205185142300190 < 2 ^ 61 := Nat.lt_of_le_of_lt Nat.and_le_right (by decide)
  have b2 : (x &&& 2170205185142300190) ^^^ 1012762419733073422 < 2 ^ 61 := Nat.xor_lt_two_pow b1 (by decide)
  rw [k1, k2, u64_and_nat _ _ h (by decide), u64_xor_nat _ _ (by omega) (by decide)]
  have e : IntKind.u64.wrap ((((x &&& 2170205185142300190) ^^^ 1012762419733073422 : Nat) : Int) + 9187201950435737471) = (((((x &&& 2170205185142300190) ^^^ 1012762419733073422) + 9187201950435737471) : Nat) : Int) := by
    rw [IntKind.wrap_u64]; omega
  rw [e, u64_andNot_nat _ _ (high_lt x) (by omega)]
  rfl
theorem wide_walk (x : Nat) (h : x < 18446744073709551616) :
    bits .andNot .u64 (bits .and .u64 ((high x : Nat) : Int) (IntKind.u64.wrap ((x : Int) * 8))) (IntKind.u64.wrap (IntKind.u64.wrap (bits .and .u64 (x : Int) 1085102592571150095 + 795741901218843403) * 8)) = ((wideW x : Nat) : Int) := by
  have k1 : (1085102592571150095 : Int) = ((1085102592571150095 : Nat) : Int) := rfl
  have b1 : x &&& 1085102592571150095 < 2 ^ 60 := Nat.lt_of_le_of_lt Nat.and_le_right (by decide)
  have e8 : IntKind.u64.wrap ((x : Int) * 8) = ((8 * x % 18446744073709551616 : Nat) : Int) := by rw [IntKind.wrap_u64]; omega
  have hl := high_lt x
  rw [k1, e8, u64_and_nat _ _ h (by decide), u64_and_nat _ _ hl (by omega)]
  have e : IntKind.u64.wrap (IntKind.u64.wrap (((x &&& 1085102592571150095 : Nat) : Int) + 795741901218843403) * 8) = ((8 * lowW x % 18446744073709551616 : Nat) : Int) := by
    rw [IntKind.wrap_u64, IntKind.wrap_u64]; unfold lowW; omega
  rw [e, u64_andNot_nat _ _ (Nat.lt_of_le_of_lt Nat.and_le_left hl) (by omega)]
  rfl
theorem sum_walk (x a b : Nat) :
    IntKind.u64.wrap (IntKind.u64.wrap ((x : Int) + IntKind.u64.wrap (5 * ((a : Int) / 128))) - IntKind.u64.wrap (2 * ((b : Int) / 128))) = (((((x + 5 * (a / 128) % 18446744073709551616) % 18446744073709551616) + 18446744073709551616 - 2 * (b / 128) % 18446744073709551616) % 18446744073709551616 : Nat) : Int) := by
  simp only [IntKind.wrap_u64]; omega

/-! ### weighWord -/
set_option maxHeartbeats 400000 in
theorem weigh_any (o : Int) (x : Nat) (w : World) (ho : (o == 0) = false) (h : x < 18446744073709551616) :
    Calls Try.prog 34 #[.int .u8 o, .int .u64 x] w fun e w' => e = .returned (.int .u64 (weighed x)) ∧ w' = w := by
  have hh := high_walk x h
  have ho' := opens_walk x h
  have hw' := wide_walk x h
  by_cases hz : high x = 0
  · have hb : (((high x : Nat) : Int) == 0) = true := by rw [hz]; rfl
    have e : weighed x = x := by unfold weighed; rw [if_pos hz]
    rw [e]; clear e ho' hw' hz
    go_enter Try.func34, Try.ntmps34
    go_wp2
    go_ret
    exact ⟨rfl, rfl⟩
  · have hb : (((high x : Nat) : Int) == 0) = false := by
      simp; exact hz
    have e : weighed x = ((x + 5 * (opensW x / 128) % 18446744073709551616) % 18446744073709551616 + 18446744073709551616 - 2 * (wideW x / 128) % 18446744073709551616) % 18446744073709551616 := by
      unfold weighed; rw [if_neg hz]
    have E : Hid (weighed x = ((x + 5 * (opensW x / 128) % 18446744073709551616) % 18446744073709551616 + 18446744073709551616 - 2 * (wideW x / 128) % 18446744073709551616) % 18446744073709551616) := e
    clear hz e
    go_enter Try.func34, Try.ntmps34
    go_wp2
    go_ret
    refine ⟨ret_int ?_, rfl⟩
    rw [E.out]
    exact sum_walk x (opensW x) (wideW x)
theorem weigh_byte (x : Int) (w : World) :
    Calls Try.prog 34 #[.int .u8 0, .int .u64 x] w fun e w' => e = .returned (.int .u64 x) ∧ w' = w := by
  go_enter Try.func34, Try.ntmps34
  go_wp2
  go_ret
  exact ⟨rfl, rfl⟩
/-- ZZWeighWord, under every order. -/
def ord (o : Int) (x : Nat) : Nat := if o = 0 then x else weighed x
theorem zzweigh_any (o : Int) (x : Nat) (w : World) (h : x < 18446744073709551616) :
    Calls Try.prog 17 #[.int .u8 o, .int .u64 x] w fun e w' => e = .returned (.int .u64 (ord o x)) ∧ w' = w := by
  by_cases ho : o = 0
  · subst ho
    go_enter Try.func17, Try.ntmps17
    go_wp2_with (go_at_call 34; refine (weigh_byte _ _).mono ?_; rintro e w' ⟨rfl, rfl⟩)
    go_ret
    exact ⟨rfl, rfl⟩
  · have e : ord o x = weighed x := by unfold ord; rw [if_neg ho]
    rw [e]; clear e
    have ho' : (o == 0) = false := by simpa using ho
    go_enter Try.func17, Try.ntmps17
    go_wp2_with (go_at_call 34; refine (weigh_any _ _ _ ho' h).mono ?_; rintro e w' ⟨rfl, rfl⟩)
    go_ret
    exact ⟨rfl, rfl⟩

/-! ### utf16Weight -/
theorem utf16_any (b : Nat) (w : World) :
    Calls Try.prog 18 #[.int .u8 b] w fun e w' => e = .returned (.int .u8 (wt b)) ∧ w' = w := by
  go_enter Try.func18, Try.ntmps18
  go_wp2
  all_goals
    go_ret
    refine ⟨ret_int ?_, rfl⟩
    simp only [beq_iff_eq, beq_eq_false_iff_ne] at *
    unfold wt
    repeat (first | rw [if_pos (by omega)] | rw [if_neg (by omega)])
    try omega
end Go.Proofs.Qxb6603421a.WW
