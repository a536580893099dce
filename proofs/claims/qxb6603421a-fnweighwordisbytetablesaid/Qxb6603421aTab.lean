import Derived.Test.Qxb6603421aWw
namespace Go.Proofs.Qxb6603421a.WW
open Go.RowKit

/-- The byte that the law puts for byte b under order o. -/
def tb (o : Int) (b : Nat) : Nat := if o = 0 then b else wt b
/-- What the law has gathered behind k rounds: the k lowest bytes, each in its place. -/
def want (o : Int) (x k : Nat) : Nat := ofB ((bytesOf k x).map (tb o))

theorem bytesOf_snoc (k x : Nat) : bytesOf (k + 1) x = bytesOf k x ++ [x / 256 ^ k % 256] := by
  induction k generalizing x with
  | zero => simp [bytesOf]
  | succ k ih =>
    rw [bytesOf, ih, bytesOf, List.cons_append, Nat.div_div_eq_div_mul, Nat.pow_succ, Nat.mul_comm]
theorem ofB_snoc (bs : List Nat) (b : Nat) : ofB (bs ++ [b]) = ofB bs + 256 ^ bs.length * b := by
  induction bs with
  | nil => simp [ofB]
  | cons c bs ih => simp only [List.cons_append, ofB, ih, List.length_cons, Nat.pow_succ]; rw [Nat.mul_add, ← Nat.add_assoc, Nat.mul_comm (256 ^ bs.length) 256, Nat.mul_assoc]
theorem tb_lt (o : Int) (b : Nat) (h : b < 256) : tb o b < 256 := by
  unfold tb; split
  · exact h
  · exact wt_lt b h
theorem want_lt (o : Int) (x k : Nat) : want o x k < 256 ^ k := by
  have := ofB_lt ((bytesOf k x).map (tb o)) (by intro y hy; obtain ⟨b, hb, rfl⟩ := List.mem_map.mp hy; exact tb_lt o b (bytesOf_lt k x b hb))
  rw [List.length_map, bytesOf_len] at this
  exact this
theorem want_succ (o : Int) (x k : Nat) : want o x (k + 1) = want o x k + 256 ^ k * tb o (x / 256 ^ k % 256) := by
  unfold want
  rw [bytesOf_snoc, List.map_append, List.map_singleton, ofB_snoc, List.length_map, bytesOf_len]
theorem want_ord (o : Int) (x : Nat) (h : x < 18446744073709551616) : want o x 8 = ord o x := by
  unfold want ord tb
  split
  · rw [List.map_id', ofB_bytesOf 8 x h]
  · exact (weighed_eq x h).symm
theorem utf16_int (z : Int) (w : World) (h : 0 ≤ z) :
    Calls Try.prog 18 #[.int .u8 z] w fun e w' => e = .returned (.int .u8 (wt z.toNat)) ∧ w' = w := by
  obtain ⟨n, rfl⟩ := Int.eq_ofNat_of_zero_le h
  exact utf16_any n w

theorem or_step (k a t : Nat) (hk : k < 8) (ha : a < 256 ^ k) (ht : t < 256) :
    bits .or .u64 (a : Int) (IntKind.u64.wrap (IntKind.u64.wrap (t : Int) * 2 ^ (8 * k))) = ((a + 256 ^ k * t : Nat) : Int) := by
  have p8 : (256 : Nat) ^ (k + 1) ≤ 256 ^ 8 := Nat.pow_le_pow_right (by omega) (by omega)
  have pk : (2 : Nat) ^ (8 * k) = 256 ^ k := by rw [Nat.pow_mul]
  have p0 : 0 < (256 : Nat) ^ k := Nat.pow_pos (by omega)
  have e8 : (256 : Nat) ^ 8 = 18446744073709551616 := by decide
  have m : 256 ^ k * t < 256 ^ (k + 1) := by rw [Nat.pow_succ]; exact Nat.mul_lt_mul_of_pos_left ht p0
  have e1 : IntKind.u64.wrap (t : Int) = (t : Int) := by rw [IntKind.wrap_u64]; omega
  have e2 : ((t : Int) * 2 ^ (8 * k)) = ((256 ^ k * t : Nat) : Int) := by
    rw [← pk, Int.natCast_mul, Int.natCast_pow, Int.mul_comm]; rfl
  have e3 : IntKind.u64.wrap ((256 ^ k * t : Nat) : Int) = ((256 ^ k * t : Nat) : Int) := by rw [IntKind.wrap_u64]; omega
  have hlt : 256 ^ k ≤ 256 ^ (k + 1) := Nat.pow_le_pow_right (by omega) (by omega)
  rw [e1, e2, e3, u64_or_nat _ _ (by omega) (by omega), Nat.or_comm, nat_join (8 * k) _ _ (by rw [pk]; exact Nat.mul_mod_right _ _) (by rw [pk]; exact ha), Nat.add_comm]
theorem byte_at (x k : Nat) : ((x : Int) / 2 ^ (8 * k) % 256).toNat = x / 256 ^ k % 256 := by
  have pk : (2 : Nat) ^ (8 * k) = 256 ^ k := by rw [Nat.pow_mul]
  have : ((x : Int) / 2 ^ (8 * k) % 256) = ((x / 256 ^ k % 256 : Nat) : Int) := by
    rw [Int.natCast_emod, Int.natCast_ediv, ← pk, Int.natCast_pow]; rfl
  rw [this]; rfl
theorem step_wt (o : Int) (x k : Nat) (ho : o ≠ 0) (hk : k < 8) :
    bits .or .u64 ((want o x k : Nat) : Int) (IntKind.u64.wrap (IntKind.u64.wrap ((wt ((x : Int) / 2 ^ (8 * k) % 256).toNat : Nat) : Int) * 2 ^ (8 * k))) = ((want o x (k + 1) : Nat) : Int) := by
  rw [byte_at, or_step k _ _ hk (want_lt o x k) (wt_lt _ (by omega)), want_succ]
  unfold tb; rw [if_neg ho]
theorem step_id (x k : Nat) (hk : k < 8) :
    bits .or .u64 ((want 0 x k : Nat) : Int) (IntKind.u64.wrap (((x : Int) / 2 ^ (8 * k) % 256) * 2 ^ (8 * k))) = ((want 0 x (k + 1) : Nat) : Int) := by
  have e0 : IntKind.u64.wrap ((x / 256 ^ k % 256 : Nat) : Int) = ((x / 256 ^ k % 256 : Nat) : Int) := by rw [IntKind.wrap_u64]; omega
  have e : ((x : Int) / 2 ^ (8 * k) % 256) = ((x / 256 ^ k % 256 : Nat) : Int) := by
    rw [← byte_at]; omega
  have s := or_step k _ (x / 256 ^ k % 256) hk (want_lt 0 x k) (by omega)
  rw [e0] at s
  rw [e, s, want_succ]
  rfl

set_option maxHeartbeats 400000 in
theorem core_other (o : Int) (x R : Nat) (WT : Nat → Nat) (w : World) (ho : (o == 0) = false)
    (hR : Hid (∀ w, Calls Try.prog 17 #[.int .u8 o, .int .u64 x] w fun e w' => e = .returned (.int .u64 R) ∧ w' = w))
    (h0 : Hid (WT 0 = 0))
    (hs : Hid (∀ k, k < 8 → bits .or .u64 ((WT k : Nat) : Int) (IntKind.u64.wrap (IntKind.u64.wrap ((wt ((x : Int) / 2 ^ (8 * k) % 256).toNat : Nat) : Int) * 2 ^ (8 * k))) = ((WT (k + 1) : Nat) : Int)))
    (h8 : Hid (∀ k, k ≤ 8 → ¬ k < 8 → (((R : Nat) : Int) == ((WT k : Nat) : Int)) = true)) :
    Calls Try.prog 5 #[.int .u8 o, .int .u64 x] w fun e w' => e = .returned (.bool true) ∧ w' = w := by
  go_enter Try.func5, Try.ntmps5
  go_wp2_with (go_at_call 17; refine (hR.out _).mono ?_; rintro e w' ⟨rfl, rfl⟩)
  go_loop [6, 7] (fun t i => ∃ k : Nat, k ≤ 8 ∧ i = .int .u64 k ∧ t = .int .u64 (WT k)) (fun _ i => 8 - (intOf i).toNat)
  case atStart => exact ⟨0, Nat.zero_le _, rfl, by rw [h0.out]; rfl⟩
  case round =>
    obtain ⟨k, hk, rfl, rfl⟩ := hrel
    by_cases hlt : k < 8
    · go_wp2_with (go_at_call 18; refine (utf16_int _ _ (by omega)).mono ?_; rintro e w' ⟨rfl, rfl⟩)
      go_round
      case rel => exact ⟨k + 1, by omega, by go_num, by rw [hs.out k hlt]⟩
      case measure => simp [intOf]; omega
    · have hq := h8.out k hk hlt
      go_wp2
      go_ret
      exact ⟨rfl, rfl⟩

set_option maxHeartbeats 400000 in
theorem core_zero (x R : Nat) (WT : Nat → Nat) (w : World)
    (hR : Hid (∀ w, Calls Try.prog 17 #[.int .u8 0, .int .u64 x] w fun e w' => e = .returned (.int .u64 R) ∧ w' = w))
    (h0 : Hid (WT 0 = 0))
    (hs : Hid (∀ k, k < 8 → bits .or .u64 ((WT k : Nat) : Int) (IntKind.u64.wrap (((x : Int) / 2 ^ (8 * k) % 256) * 2 ^ (8 * k))) = ((WT (k + 1) : Nat) : Int)))
    (h8 : Hid (∀ k, k ≤ 8 → ¬ k < 8 → (((R : Nat) : Int) == ((WT k : Nat) : Int)) = true)) :
    Calls Try.prog 5 #[.int .u8 0, .int .u64 x] w fun e w' => e = .returned (.bool true) ∧ w' = w := by
  go_enter Try.func5, Try.ntmps5
  go_wp2_with (go_at_call 17; refine (hR.out _).mono ?_; rintro e w' ⟨rfl, rfl⟩)
  go_loop [6, 7] (fun t i => ∃ k : Nat, k ≤ 8 ∧ i = .int .u64 k ∧ t = .int .u64 (WT k)) (fun _ i => 8 - (intOf i).toNat)
  case atStart => exact ⟨0, Nat.zero_le _, rfl, by rw [h0.out]; rfl⟩
  case round =>
    obtain ⟨k, hk, rfl, rfl⟩ := hrel
    by_cases hlt : k < 8
    · go_wp2
      go_round
      case rel => exact ⟨k + 1, by omega, by go_num, by rw [hs.out k hlt]⟩
      case measure => simp [intOf]; omega
    · have hq := h8.out k hk hlt
      go_wp2
      go_ret
      exact ⟨rfl, rfl⟩
theorem law (o : Int) (x : Nat) (w : World) (h : x < 18446744073709551616) :
    Calls Try.prog 5 #[.int .u8 o, .int .u64 x] w fun e w' => e = .returned (.bool true) ∧ w' = w := by
  have W8 := want_ord o x h
  have fin : ∀ k, k ≤ 8 → ¬ k < 8 → (((ord o x : Nat) : Int) == ((want o x k : Nat) : Int)) = true := by
    intro k hk hlt
    rw [show k = 8 from by omega, W8]; simp
  by_cases ho : o = 0
  · subst ho; exact core_zero x (ord 0 x) (want 0 x) w (fun w => zzweigh_any 0 x w h) rfl (fun k hk => step_id x k hk) fin
  · exact core_other o x (ord o x) (want o x) w (by simpa using ho) (fun w => zzweigh_any o x w h) rfl (fun k hk => step_wt o x k ho hk) fin
end Go.Proofs.Qxb6603421a.WW
