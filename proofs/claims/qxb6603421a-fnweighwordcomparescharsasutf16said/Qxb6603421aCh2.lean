import Derived.Test.Qxb6603421aCh1
namespace Go.Proofs.Qxb6603421a.WW
open Go.RowKit
set_option linter.unusedVariables false

theorem put_eq (bs L : List Nat) (k : Nat) (h : k + bs.length ≤ L.length) : put L k bs = L.take k ++ bs ++ L.drop (k + bs.length) := by
  induction bs generalizing L k with
  | nil => simp [put]
  | cons b bs ih =>
    simp only [List.length_cons] at h
    rw [put, ih (L.set k b) (k + 1) (by simp; omega)]
    rw [List.take_succ_eq_append_getElem (by simp; omega), List.take_set_of_le (by omega), List.drop_set_of_lt (by omega)]
    simp only [List.getElem_set_self, List.length_cons, List.append_assoc, List.cons_append, List.nil_append]
    congr 4; omega
theorem put_name (r1 r2 : Nat) : put (put (List.replicate 8 0) 0 (enc8 r1)) (len8 r1) (enc8 r2) = name8 r1 r2 := by
  have b1 := len8_bd r1
  have b2 := len8_bd r2
  rw [put_eq (enc8 r1) _ 0 (by simp [enc8_len]; omega), put_eq _ _ _ (by simp [enc8_len]; omega)]
  simp only [List.take_zero, List.nil_append, Nat.zero_add, enc8_len, List.drop_replicate]
  unfold name8
  rw [List.take_left' (by rw [enc8_len]), List.drop_append, enc8_len, List.drop_eq_nil_of_le (by rw [enc8_len]; omega), List.nil_append, List.drop_replicate]
  congr 2; omega
def be (l : List Nat) : Nat := ofB l.reverse
theorem be_succ (L : List Nat) (k : Nat) (h : k < L.length) : be (L.take (k + 1)) = 256 * be (L.take k) + L.getD k 0 := by
  unfold be
  rw [List.take_succ_eq_append_getElem h, List.reverse_append]
  simp [ofB, h]; omega
theorem be_lt (L : List Nat) (k : Nat) (h : ∀ b ∈ L, b < 256) (hk : k ≤ L.length) : be (L.take k) < 256 ^ k := by
  have := ofB_lt (L.take k).reverse (fun b hb => h b (List.mem_of_mem_take (by simpa using hb)))
  rw [List.length_reverse, List.length_take, Nat.min_eq_left hk] at this
  exact this
theorem be_step (x b : Nat) (k : Nat) (hk : k < 8) (hx : x < 256 ^ k) (hb : b < 256) : bits .or .u64 (IntKind.u64.wrap ((x : Int) * 256)) (b : Int) = ((256 * x + b : Nat) : Int) := by
  have p8 : (256 : Nat) ^ (k + 1) ≤ 256 ^ 8 := Nat.pow_le_pow_right (by omega) (by omega)
  have e8 : (256 : Nat) ^ 8 = 18446744073709551616 := by decide
  rw [Nat.pow_succ] at p8
  have e1 : IntKind.u64.wrap ((x : Int) * 256) = ((256 * x : Nat) : Int) := by rw [IntKind.wrap_u64]; omega
  rw [e1, u64_or_nat _ _ (by omega) (by omega), nat_join 8 _ _ (by omega) (by omega)]

set_option maxHeartbeats 400000 in
theorem pack_any (r1 r2 : Nat) (w : World) (h1 : Scalar r1) (h2 : Scalar r2) :
    Calls Try.prog 20 #[.int .i32 r1, .int .i32 r2] w fun e w' => e = .returned (.int .u64 (word (fun b => b) r1 r2 : Nat)) ∧ Below w.heap.size w w' := by
  have b1 := len8_bd r1
  have b2 := len8_bd r2
  have hl0 := put_name r1 r2
  obtain ⟨L1, hL1⟩ : ∃ L1, L1 = put (List.replicate 8 0) 0 (enc8 r1) := ⟨_, rfl⟩
  have lL1 : L1.length = 8 := by rw [hL1, put_eq _ _ _ (by simp [enc8_len]; omega)]; simp [enc8_len]; omega
  obtain ⟨n1, hn1⟩ : ∃ n1, n1 = len8 r1 := ⟨_, rfl⟩
  obtain ⟨n2, hn2⟩ : ∃ n2, n2 = len8 r2 := ⟨_, rfl⟩
  have g1 : at65 (w.alloc (.cells (bcs (List.replicate 8 0)).toArray 65)) w.heap.size (List.replicate 8 0) := heap_alloc_new w _
  have p1 : Calls Try.prog 35 #[.pointer (some ⟨w.heap.size, 0, none⟩), .int .i64 0, .int .i32 r1] (w.alloc (.cells #[.int .u8 0, .int .u8 0, .int .u8 0, .int .u8 0, .int .u8 0, .int .u8 0, .int .u8 0, .int .u8 0] 65)) fun e w' => e = .returned (.int .i64 n1) ∧ at65 w' w.heap.size L1 ∧ Below w.heap.size (w.alloc (.cells (bcs (List.replicate 8 0)).toArray 65)) w' ∧ w'.heap.size = w.heap.size + 1 := by
    have := put8_any w.heap.size (List.replicate 8 0) 0 r1 _ g1 (by simp) h1 (by omega)
    rw [Nat.zero_add, ← hL1, ← hn1] at this
    refine Calls.mono this ?_
    rintro e w' ⟨a, b, c, d⟩
    exact ⟨a, b, c, by rw [d]; show (w.heap.push _).size = _; simp⟩
  have P1 : Hid _ := p1
  have H0 : Hid _ := hl0
  rw [← hL1, ← hn1] at hl0
  have HL0 : Hid _ := hl0
  have HN1 : Hid _ := hn1
  have HN2 : Hid _ := hn2
  have HS1 : Hid _ := h1
  have HS2 : Hid _ := h2
  rw [← hn1] at b1
  rw [← hn2] at b2
  clear p1 hl0 hL1 hn1 hn2 h1 h2 g1 H0
  go_enter Try.func20, Try.ntmps20
  go_wp2_with fail
  refine Calls.mono P1.out ?_
  rintro e w1 ⟨rfl, ha1, hb1, hs1⟩
  have HA1 : Hid _ := ha1
  have HB1 : Hid _ := hb1
  have HZ1 : Hid _ := hs1
  clear ha1 hb1 hs1
  go_wp2_with fail
  refine (put8_any w.heap.size L1 n1 r2 w1 HA1.out lL1 HS2.out (by rw [← HN2.out]; omega)).mono ?_
  rintro e w2 ⟨rfl, ha2, hb2, hs2⟩
  rw [HL0.out] at ha2
  obtain ⟨L, hL⟩ : ∃ L, L = name8 r1 r2 := ⟨_, rfl⟩
  rw [← hL] at ha2
  have lL : L.length = 8 := by rw [hL]; exact name8_len r1 r2
  have bL : ∀ b ∈ L, b < 256 := by rw [hL]; exact name8_lt r1 r2 HS1.out HS2.out
  have hbw : Below w.heap.size w w2 := (((Below.refl _ _).alloc (Nat.le_refl _) _).trans HB1.out).trans hb2
  have HA2 : Hid _ := ha2
  have HBW : Hid _ := hbw
  have HL : Hid _ := hL
  have BL : Hid _ := bL
  have LL : Hid _ := lL
  clear ha2 hb2 hs2 hL bL lL hbw HA1 HB1 HZ1 P1 HL0 HS1 HS2 lL1
  go_wp2
  go_loop [7, 8] (fun t i => ∃ k : Nat, k ≤ 8 ∧ i = .int .i64 k ∧ t = .int .u64 (be (L.take k) : Nat)) (fun _ i => 8 - (intOf i).toNat)
  case atStart => exact ⟨0, Nat.zero_le _, rfl, rfl⟩
  case round =>
    obtain ⟨k, hk, rfl, rfl⟩ := hrel
    by_cases hlt : k < 8
    · have hc := at65_cell HA2.out k (by rw [LL.out]; exact hlt)
      have hb : L.getD k 0 < 256 := by
        have hkl : k < L.length := by rw [LL.out]; exact hlt
        have e : L.getD k 0 = L[k] := by simp [hkl]
        rw [e]; exact BL.out _ (List.getElem_mem hkl)
      have hx := be_lt L k BL.out (by rw [LL.out]; exact hk)
      have hs := be_succ L k (by rw [LL.out]; exact hlt)
      obtain ⟨x, hx'⟩ : ∃ x, x = be (L.take k) := ⟨_, rfl⟩
      obtain ⟨b, hb'⟩ : ∃ b, b = L.getD k 0 := ⟨_, rfl⟩
      obtain ⟨y, hy'⟩ : ∃ y, y = be (L.take (k + 1)) := ⟨_, rfl⟩
      rw [← hx', ← hb', ← hy'] at hs
      rw [← hb'] at hc hb
      rw [← hx'] at hx ⊢
      have st := be_step x b k hlt hx hb
      have HST : Hid _ := st
      have HS : Hid _ := hs
      have HY : Hid _ := hy'
      clear hx st hs hx' hb' hy'
      have hki : (k : Int) < 8 := by omega
      go_wp2
      go_round
      case rel =>
        exact ⟨k + 1, by omega, by go_num, by rw [← HY.out, HS.out, ← HST.out]⟩
      case measure => simp [intOf]; omega
    · have hk8 : k = 8 := by omega
      have hfin : be (L.take k) = word (fun b => b) r1 r2 := by
        rw [hk8, List.take_of_length_le (by rw [LL.out]; omega), HL.out]
        unfold be word name8; rw [List.map_id']
      obtain ⟨X, hX⟩ : ∃ X, X = be (L.take k) := ⟨_, rfl⟩
      rw [← hX] at hfin ⊢
      have HF : Hid _ := hfin
      clear hfin hk8 hX
      go_wp2
      go_ret
      exact ⟨ret_int (by rw [HF.out]), HBW.out⟩
end Go.Proofs.Qxb6603421a.WW
