import Derived.Test.Qxb6603449aSwar
import Derived.WalkSpells
import Derived.WalkLawsBesides
import Derived.Deep.QuietTactic
import Derived.BigQuiet
namespace Go.Proofs.Qxb6603449a.PA
open Go.RowKit

theorem cl_walk (x : Nat) :
    (bits BinOp.and IntKind.u64 (bits BinOp.or IntKind.u64 (IntKind.u64.wrap (↑x + 72340172838076673)) (IntKind.u64.wrap (↑x - 2314885530818453536))) 9259542123273814144 == 0) = true ↔ good 8 x := by
  have e1 : IntKind.u64.wrap ((x : Int) + 72340172838076673) = (((x + 72340172838076673) % 18446744073709551616 : Nat) : Int) := by rw [IntKind.wrap_u64]; omega
  have e2 : IntKind.u64.wrap ((x : Int) - 2314885530818453536) = (((x + 16131858542891098080) % 18446744073709551616 : Nat) : Int) := by rw [IntKind.wrap_u64]; omega
  have k1 : (9259542123273814144 : Int) = ((9259542123273814144 : Nat) : Int) := rfl
  have l : (x + 72340172838076673) % 18446744073709551616 ||| (x + 16131858542891098080) % 18446744073709551616 < 2 ^ 64 := Nat.or_lt_two_pow (by omega) (by omega)
  rw [e1, e2, k1, u64_or_nat _ _ (by omega) (by omega), u64_and_nat _ _ (by omega) (by decide), ← swar8 x]
  simp only [beq_iff_eq]
  omega
def ClPost (x : Nat) (w : World) (e : Ending) (w' : World) : Prop := ∃ b, e = .returned (.bool b) ∧ (b = true ↔ good 8 x) ∧ w = w'
theorem cl_any (x : Nat) (w : World) :
    Calls Try.prog 33 #[.int .u64 x] w fun e w' => ClPost x w e w' := by
  go_enter Try.func33, Try.ntmps33
  go_wp2
  go_ret
  exact ⟨_, rfl, cl_walk x, rfl⟩

/-- A word out of its bytes, the low one first. -/
def ofB : List Nat → Nat
  | [] => 0
  | b :: bs => b + 256 * ofB bs
theorem good_ofB (bs : List Nat) (h : ∀ b ∈ bs, b < 256) : good bs.length (ofB bs) ↔ ∀ b ∈ bs, In b := by
  induction bs with
  | nil => simp [good]
  | cons b bs ih =>
    have hb := h b (by simp)
    have e1 : (b + 256 * ofB bs) % 256 = b := by omega
    have e2 : (b + 256 * ofB bs) / 256 = ofB bs := by omega
    rw [List.length_cons, good, ofB, e1, e2, ih (fun x hx => h x (by simp [hx]))]
    simp

theorem or64 (j a t M : Nat) (m : Int) (hm : m = (M : Int)) (hM : M = 2 ^ j) (ha : a < M) (ht : t < 256) (hj : M * 256 ≤ 18446744073709551616) :
    bits .or .u64 (a : Int) (IntKind.u64.wrap (IntKind.u64.wrap (t : Int) * m)) = ((a + M * t : Nat) : Int) := by
  subst hm
  have l : M * t < M * 256 := Nat.mul_lt_mul_of_pos_left ht (by omega)
  have e1 : IntKind.u64.wrap (t : Int) = (t : Int) := by rw [IntKind.wrap_u64]; omega
  have e2 : (t : Int) * (M : Int) = ((M * t : Nat) : Int) := by rw [Nat.mul_comm]; exact (Int.natCast_mul t M).symm
  have e3 : IntKind.u64.wrap ((M * t : Nat) : Int) = ((M * t : Nat) : Int) := by rw [IntKind.wrap_u64]; omega
  rw [e1, e2, e3, u64_or_nat _ _ (by omega) (by omega), Nat.or_comm, nat_join j _ _ (by rw [← hM]; exact Nat.mul_mod_right _ _) (by omega), Nat.add_comm]
theorem or32 (j a t M : Nat) (m : Int) (hm : m = (M : Int)) (hM : M = 2 ^ j) (ha : a < M) (ht : t < 256) (hj : M * 256 ≤ 4294967296) :
    bits .or .u32 (a : Int) (IntKind.u32.wrap (IntKind.u32.wrap (t : Int) * m)) = ((a + M * t : Nat) : Int) := by
  subst hm
  have l : M * t < M * 256 := Nat.mul_lt_mul_of_pos_left ht (by omega)
  have e1 : IntKind.u32.wrap (t : Int) = (t : Int) := by rw [IntKind.wrap_u32]; omega
  have e2 : (t : Int) * (M : Int) = ((M * t : Nat) : Int) := by rw [Nat.mul_comm]; exact (Int.natCast_mul t M).symm
  have e3 : IntKind.u32.wrap ((M * t : Nat) : Int) = ((M * t : Nat) : Int) := by rw [IntKind.wrap_u32]; omega
  rw [e1, e2, e3, u32_or_nat _ _ (by omega) (by omega), Nat.or_comm, nat_join j _ _ (by rw [← hM]; exact Nat.mul_mod_right _ _) (by omega), Nat.add_comm]

theorem w8_walk (b0 b1 b2 b3 b4 b5 b6 b7 : Nat) (h0 : b0 < 256) (h1 : b1 < 256) (h2 : b2 < 256) (h3 : b3 < 256) (h4 : b4 < 256) (h5 : b5 < 256) (h6 : b6 < 256) (h7 : b7 < 256) :
    bits BinOp.or IntKind.u64 (bits BinOp.or IntKind.u64 (bits BinOp.or IntKind.u64 (bits BinOp.or IntKind.u64 (bits BinOp.or IntKind.u64 (bits BinOp.or IntKind.u64 (bits BinOp.or IntKind.u64 (IntKind.u64.wrap (b0 : Int)) (IntKind.u64.wrap (IntKind.u64.wrap (b1 : Int) * 256))) (IntKind.u64.wrap (IntKind.u64.wrap (b2 : Int) * 65536))) (IntKind.u64.wrap (IntKind.u64.wrap (b3 : Int) * 16777216))) (IntKind.u64.wrap (IntKind.u64.wrap (b4 : Int) * 4294967296))) (IntKind.u64.wrap (IntKind.u64.wrap (b5 : Int) * 1099511627776))) (IntKind.u64.wrap (IntKind.u64.wrap (b6 : Int) * 281474976710656))) (IntKind.u64.wrap (IntKind.u64.wrap (b7 : Int) * 72057594037927936))
      = ((ofB [b0, b1, b2, b3, b4, b5, b6, b7] : Nat) : Int) := by
  have e0 : IntKind.u64.wrap (b0 : Int) = (b0 : Int) := by rw [IntKind.wrap_u64]; omega
  rw [e0, or64 8 _ _ 256 256 rfl rfl (by omega) h1 (by omega), or64 16 _ _ 65536 65536 rfl rfl (by omega) h2 (by omega), or64 24 _ _ 16777216 16777216 rfl rfl (by omega) h3 (by omega),
    or64 32 _ _ 4294967296 4294967296 rfl rfl (by omega) h4 (by omega), or64 40 _ _ 1099511627776 1099511627776 rfl rfl (by omega) h5 (by omega), or64 48 _ _ 281474976710656 281474976710656 rfl rfl (by omega) h6 (by omega),
    or64 56 _ _ 72057594037927936 72057594037927936 rfl rfl (by omega) h7 (by omega)]
  simp only [ofB]; omega
theorem w4_walk (b0 b1 b2 b3 : Nat) (h0 : b0 < 256) (h1 : b1 < 256) (h2 : b2 < 256) (h3 : b3 < 256) :
    bits BinOp.or IntKind.u32 (bits BinOp.or IntKind.u32 (bits BinOp.or IntKind.u32 (IntKind.u32.wrap (b0 : Int)) (IntKind.u32.wrap (IntKind.u32.wrap (b1 : Int) * 256))) (IntKind.u32.wrap (IntKind.u32.wrap (b2 : Int) * 65536))) (IntKind.u32.wrap (IntKind.u32.wrap (b3 : Int) * 16777216))
      = ((ofB [b0, b1, b2, b3] : Nat) : Int) := by
  have e0 : IntKind.u32.wrap (b0 : Int) = (b0 : Int) := by rw [IntKind.wrap_u32]; omega
  rw [e0, or32 8 _ _ 256 256 rfl rfl (by omega) h1 (by omega), or32 16 _ _ 65536 65536 rfl rfl (by omega) h2 (by omega), or32 24 _ _ 16777216 16777216 rfl rfl (by omega) h3 (by omega)]
  simp only [ofB]; omega
/-- The byte at place i. -/
def at_ (s : ByteArray) (i : Nat) : Nat := if h : i < s.size then s[i].toNat else 0
theorem at_eq (s : ByteArray) (i : Nat) (h : i < s.size) : s[i].toNat = at_ s i := by unfold at_; rw [dif_pos h]
theorem at_lt (s : ByteArray) (i : Nat) : at_ s i < 256 := by
  unfold at_; split
  · exact UInt8.toNat_lt _
  · omega
theorem ret_int {k : IntKind} {a b : Int} (h : a = b) : Ending.returned (.int k a) = .returned (.int k b) := by rw [h]

theorem word8_any (s : ByteArray) (w : World) (h : 8 ≤ s.size) :
    Calls Try.prog 34 #[.string s] w fun e w' => e = .returned (.int .u64 (ofB [at_ s 0, at_ s 1, at_ s 2, at_ s 3, at_ s 4, at_ s 5, at_ s 6, at_ s 7] : Nat)) ∧ ∃ n, w' = w.drewN n := by
  have l0 : (0 : Nat) < s.size := by omega
  have j0 : (0 : Int) < (s.size : Int) := by omega
  have l1 : (1 : Nat) < s.size := by omega
  have j1 : (1 : Int) < (s.size : Int) := by omega
  have l2 : (2 : Nat) < s.size := by omega
  have j2 : (2 : Int) < (s.size : Int) := by omega
  have l3 : (3 : Nat) < s.size := by omega
  have j3 : (3 : Int) < (s.size : Int) := by omega
  have l4 : (4 : Nat) < s.size := by omega
  have j4 : (4 : Int) < (s.size : Int) := by omega
  have l5 : (5 : Nat) < s.size := by omega
  have j5 : (5 : Int) < (s.size : Int) := by omega
  have l6 : (6 : Nat) < s.size := by omega
  have j6 : (6 : Int) < (s.size : Int) := by omega
  have l7 : (7 : Nat) < s.size := by omega
  have j7 : (7 : Int) < (s.size : Int) := by omega
  go_enter Try.func34, Try.ntmps34
  go_wp2
  go_quiet (fail)
  go_wp2
  go_ret
  refine ⟨ret_int ?_, _, rfl⟩
  rw [at_eq s 0 l0, at_eq s 1 l1, at_eq s 2 l2, at_eq s 3 l3, at_eq s 4 l4, at_eq s 5 l5, at_eq s 6 l6, at_eq s 7 l7]
  exact w8_walk _ _ _ _ _ _ _ _ (at_lt s 0) (at_lt s 1) (at_lt s 2) (at_lt s 3) (at_lt s 4) (at_lt s 5) (at_lt s 6) (at_lt s 7)
theorem word4_any (s : ByteArray) (w : World) (h : 4 ≤ s.size) :
    Calls Try.prog 35 #[.string s] w fun e w' => e = .returned (.int .u32 (ofB [at_ s 0, at_ s 1, at_ s 2, at_ s 3] : Nat)) ∧ ∃ n, w' = w.drewN n := by
  have l0 : (0 : Nat) < s.size := by omega
  have j0 : (0 : Int) < (s.size : Int) := by omega
  have l1 : (1 : Nat) < s.size := by omega
  have j1 : (1 : Int) < (s.size : Int) := by omega
  have l2 : (2 : Nat) < s.size := by omega
  have j2 : (2 : Int) < (s.size : Int) := by omega
  have l3 : (3 : Nat) < s.size := by omega
  have j3 : (3 : Int) < (s.size : Int) := by omega
  go_enter Try.func35, Try.ntmps35
  go_wp2
  go_quiet (fail)
  go_wp2
  go_ret
  refine ⟨ret_int ?_, _, rfl⟩
  rw [at_eq s 0 l0, at_eq s 1 l1, at_eq s 2 l2, at_eq s 3 l3]
  exact w4_walk _ _ _ _ (at_lt s 0) (at_lt s 1) (at_lt s 2) (at_lt s 3)
end Go.Proofs.Qxb6603449a.PA
