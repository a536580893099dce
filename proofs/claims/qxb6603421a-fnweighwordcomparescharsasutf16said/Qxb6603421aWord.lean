namespace Go.Proofs.Qxb6603421a.WW

/-- A word out of its bytes, the lowest first. -/
def ofB : List Nat → Nat
  | [] => 0
  | b :: bs => b + 256 * ofB bs

theorem split_and (a A b B : Nat) (ha : a < 256) (hb : b < 256) : (a + 256 * A) &&& (b + 256 * B) = (a &&& b) + 256 * (A &&& B) := by
  have h1 : ((a + 256 * A) &&& (b + 256 * B)) % 2 ^ 8 = (a &&& b) := by
    rw [Nat.and_mod_two_pow]; congr 1 <;> omega
  have h2 : ((a + 256 * A) &&& (b + 256 * B)) / 2 ^ 8 = (A &&& B) := by
    rw [Nat.and_div_two_pow]; congr 1 <;> omega
  omega
theorem split_xor (a A b B : Nat) (ha : a < 256) (hb : b < 256) : (a + 256 * A) ^^^ (b + 256 * B) = (a ^^^ b) + 256 * (A ^^^ B) := by
  have h1 : ((a + 256 * A) ^^^ (b + 256 * B)) % 2 ^ 8 = (a ^^^ b) := by
    rw [Nat.xor_mod_two_pow]; congr 1 <;> omega
  have h2 : ((a + 256 * A) ^^^ (b + 256 * B)) / 2 ^ 8 = (A ^^^ B) := by
    rw [Nat.xor_div_two_pow]; congr 1 <;> omega
  omega

theorem and_map (f g : Nat → Nat) (bs : List Nat) (hf : ∀ b ∈ bs, f b < 256) (hg : ∀ b ∈ bs, g b < 256) :
    ofB (bs.map f) &&& ofB (bs.map g) = ofB (bs.map fun b => f b &&& g b) := by
  induction bs with
  | nil => simp [ofB]
  | cons b bs ih =>
    simp only [List.map_cons, ofB]
    rw [split_and _ _ _ _ (hf b (by simp)) (hg b (by simp)), ih (fun x hx => hf x (by simp [hx])) (fun x hx => hg x (by simp [hx]))]
theorem xor_map (f g : Nat → Nat) (bs : List Nat) (hf : ∀ b ∈ bs, f b < 256) (hg : ∀ b ∈ bs, g b < 256) :
    ofB (bs.map f) ^^^ ofB (bs.map g) = ofB (bs.map fun b => f b ^^^ g b) := by
  induction bs with
  | nil => simp [ofB]
  | cons b bs ih =>
    simp only [List.map_cons, ofB]
    rw [split_xor _ _ _ _ (hf b (by simp)) (hg b (by simp)), ih (fun x hx => hf x (by simp [hx])) (fun x hx => hg x (by simp [hx]))]
theorem add_map (f g : Nat → Nat) (bs : List Nat) : ofB (bs.map f) + ofB (bs.map g) = ofB (bs.map fun b => f b + g b) := by
  induction bs with
  | nil => rfl
  | cons b bs ih => simp only [List.map_cons, ofB]; omega
theorem mul_map (c : Nat) (g : Nat → Nat) (bs : List Nat) : c * ofB (bs.map g) = ofB (bs.map fun b => c * g b) := by
  induction bs with
  | nil => rfl
  | cons b bs ih =>
    simp only [List.map_cons, ofB]
    rw [← ih, Nat.mul_add, Nat.mul_left_comm]
theorem ofB_lt (bs : List Nat) (h : ∀ b ∈ bs, b < 256) : ofB bs < 256 ^ bs.length := by
  induction bs with
  | nil => simp [ofB]
  | cons b bs ih =>
    have := ih (fun x hx => h x (by simp [hx]))
    have := h b (by simp)
    simp only [ofB, List.length_cons, Nat.pow_succ]; omega
theorem bit7 (x : Nat) (h : x < 256) : x &&& 128 = if 128 ≤ x then 128 else 0 := by
  have : ∀ x, x < 256 → x &&& 128 = if 128 ≤ x then 128 else 0 := by decide +kernel
  exact this x h

/-- The bytes of a word times 2^s, masked by the bytes' high bits: byte for byte. -/
theorem shl_map (S : Nat) (hS : S = 2 ∨ S = 4 ∨ S = 8) (bs : List Nat) (c : Nat) (hc : c < S) (h : ∀ b ∈ bs, b < 256) (f : Nat → Nat) (hf : ∀ b ∈ bs, f b < 256):
    ((S * ofB (bs.map f) + c) % 256 ^ bs.length) &&& ofB (bs.map fun _ => 128) = ofB (bs.map fun b => if 128 ≤ S * f b % 256 then 128 else 0) := by
  induction bs generalizing c with
  | nil => simp [ofB]
  | cons b bs ih =>
    have h1 := hf b (by simp)
    have e : (S * ofB ((b :: bs).map f) + c) % 256 ^ (b :: bs).length = (S * f b + c) % 256 + 256 * ((S * ofB (bs.map f) + (S * f b + c) / 256) % 256 ^ bs.length) := by
      simp only [List.map_cons, ofB, List.length_cons]
      rw [show 256 ^ (bs.length + 1) = 256 * 256 ^ bs.length from by rw [Nat.pow_succ, Nat.mul_comm]]
      rw [Nat.mod_mul]
      have e1 : S * (f b + 256 * ofB (bs.map f)) + c = (S * f b + c) + 256 * (S * ofB (bs.map f)) := by
        rw [Nat.mul_add, Nat.mul_left_comm]; omega
      rw [e1]
      congr 1
      · omega
      · congr 2; omega
    rw [e]
    simp only [List.map_cons, ofB]
    rw [split_and _ _ _ _ (by omega) (by omega), ih _ (by rcases hS with rfl | rfl | rfl <;> omega) (fun x hx => h x (by simp [hx])) (fun x hx => hf x (by simp [hx]))]
    rw [bit7 _ (by omega)]
    congr 1
    rcases hS with rfl | rfl | rfl
    all_goals
      split <;> split <;> omega

def opens (b : Nat) : Nat := if b = 238 ∨ b = 239 then 1 else 0
def wide (b : Nat) : Nat := if 240 ≤ b ∧ b ≤ 244 then 1 else 0
/-- Where byte b stands in the UTF-16 order. -/
def wt (b : Nat) : Nat := if b = 238 ∨ b = 239 then b + 5 else if 240 ≤ b ∧ b ≤ 244 then b - 2 else b


theorem constB (c : Nat) (bs : List Nat) (hl : bs.length = 8) : ofB (bs.map fun _ => c) = c * 72340172838076673 := by
  match bs, hl with
  | [_, _, _, _, _, _, _, _], _ => simp only [List.map_cons, List.map_nil, ofB]; omega

theorem testBit4 {p q r K : Nat} : (((p &&& q) &&& r) &&& K) = p &&& ((q &&& K) &&& (r &&& K)) := by
  apply Nat.eq_of_testBit_eq; intro i
  simp only [Nat.testBit_and]
  cases p.testBit i <;> cases q.testBit i <;> cases r.testBit i <;> cases K.testBit i <;> rfl

/-- The bytes whose top three bits are set. -/
def high (w : Nat) : Nat := ((w &&& (2 * w % 18446744073709551616)) &&& (4 * w % 18446744073709551616)) &&& 9259542123273814144
theorem high_ofB (bs : List Nat) (hl : bs.length = 8) (h : ∀ b ∈ bs, b < 256) : high (ofB bs) = ofB (bs.map fun b => if 224 ≤ b then 128 else 0) := by
  have e0 := constB 128 bs hl
  have k2 := shl_map 2 (by simp) bs 0 (by omega) h (fun b => b) h
  have k4 := shl_map 4 (by simp) bs 0 (by omega) h (fun b => b) h
  have hid : bs.map (fun b => b) = bs := List.map_id' bs
  rw [hl, e0, hid] at k2 k4
  simp only [Nat.add_zero] at k2 k4
  have r : ∀ b, b < 256 → ((if 128 ≤ 2 * b % 256 then 128 else 0) &&& (if 128 ≤ 4 * b % 256 then 128 else 0) : Nat) < 256 ∧ (b &&& ((if 128 ≤ 2 * b % 256 then 128 else 0) &&& (if 128 ≤ 4 * b % 256 then 128 else 0)) = if 224 ≤ b then 128 else 0) := by decide +kernel
  have k := and_map (fun b => if 128 ≤ 2 * b % 256 then 128 else 0) (fun b => if 128 ≤ 4 * b % 256 then 128 else 0) bs (by intros; split <;> omega) (by intros; split <;> omega)
  have kk := and_map (fun b => b) _ bs h (fun b hb => (r b (h b hb)).1)
  rw [hid] at kk
  unfold high
  rw [testBit4]
  rw [show (18446744073709551616 : Nat) = 256 ^ 8 from by decide, show (9259542123273814144 : Nat) = 128 * 72340172838076673 from by decide, k2, k4, k, kk]
  congr 1
  exact List.map_congr_left fun b hb => (r b (h b hb)).2

/-- The bytes 0xEE and 0xEF, each marked by its high bit. -/
def opensW (w : Nat) : Nat := high w &&& (18446744073709551615 - (((w &&& 2170205185142300190) ^^^ 1012762419733073422) + 9187201950435737471))
def lowW (w : Nat) : Nat := (w &&& 1085102592571150095) + 795741901218843403
/-- The bytes 0xF0 to 0xF4, each marked by its high bit. -/
def wideW (w : Nat) : Nat := (high w &&& (8 * w % 18446744073709551616)) &&& (18446744073709551615 - (8 * lowW w % 18446744073709551616))
/-- What 'weighWord' computes under the order of UTF-16. -/
def weighed (w : Nat) : Nat := if high w = 0 then w else (((w + 5 * (opensW w / 128) % 18446744073709551616) % 18446744073709551616) + 18446744073709551616 - 2 * (wideW w / 128) % 18446744073709551616) % 18446744073709551616

theorem sub_map (c : Nat) (f : Nat → Nat) (bs : List Nat) (hf : ∀ b ∈ bs, f b ≤ c) : ofB (bs.map fun _ => c) - ofB (bs.map f) = ofB (bs.map fun b => c - f b) ∧ ofB (bs.map f) ≤ ofB (bs.map fun _ => c) := by
  induction bs with
  | nil => simp [ofB]
  | cons b bs ih =>
    have := ih fun x hx => hf x (by simp [hx])
    have := hf b (by simp)
    simp only [List.map_cons, ofB]; omega

theorem opens_ofB (bs : List Nat) (hl : bs.length = 8) (h : ∀ b ∈ bs, b < 256) : opensW (ofB bs) = ofB (bs.map fun b => 128 * opens b) := by
  have hid : bs.map (fun b => b) = bs := List.map_id' bs
  have r : ∀ b, b < 256 → (b &&& 30) < 256 ∧ (((b &&& 30) ^^^ 14) + 127) ≤ 255 ∧ ((if 224 ≤ b then 128 else 0 : Nat) &&& (255 - (((b &&& 30) ^^^ 14) + 127))) = 128 * opens b := by decide +kernel
  have k1 := and_map (fun b => b) (fun _ => 30) bs h (by intros; omega)
  have k2 := xor_map (fun b => b &&& 30) (fun _ => 14) bs (fun b hb => (r b (h b hb)).1) (by intros; omega)
  have k3 := add_map (fun b => (b &&& 30) ^^^ 14) (fun _ => 127) bs
  have k4 := (sub_map 255 (fun b => (((b &&& 30) ^^^ 14) + 127)) bs (fun b hb => (r b (h b hb)).2.1)).1
  have k5 := and_map (fun b => if 224 ≤ b then 128 else 0) (fun b => 255 - (((b &&& 30) ^^^ 14) + 127)) bs (by intros; split <;> omega) (by intros; omega)
  rw [hid, constB 30 bs hl] at k1
  rw [constB 14 bs hl] at k2
  rw [constB 127 bs hl] at k3
  rw [constB 255 bs hl] at k4
  unfold opensW
  rw [high_ofB bs hl h, show (18446744073709551615 : Nat) = 255 * 72340172838076673 from by decide, show (2170205185142300190 : Nat) = 30 * 72340172838076673 from by decide, show (1012762419733073422 : Nat) = 14 * 72340172838076673 from by decide, show (9187201950435737471 : Nat) = 127 * 72340172838076673 from by decide, k1, k2, k3, k4, k5]
  congr 1
  exact List.map_congr_left fun b hb => (r b (h b hb)).2.2

theorem and3 {H q r K : Nat} (e : H &&& K = H) : ((H &&& q) &&& r) = H &&& ((q &&& K) &&& (r &&& K)) := by
  apply Nat.eq_of_testBit_eq; intro i
  have e' := congrArg (fun x => x.testBit i) e
  simp only [Nat.testBit_and] at e' ⊢
  cases hp : H.testBit i <;> cases q.testBit i <;> cases r.testBit i <;> cases hK : K.testBit i <;> simp_all

/-- What a mask keeps of a word and of its complement makes up the mask. -/
theorem part_and (X K : Nat) (hX : X < 2 ^ 64) (hK : K < 2 ^ 64) : (X &&& K) + ((18446744073709551615 - X) &&& K) = K := by
  have h := BitVec.add_eq_or_of_and_eq_zero (BitVec.ofNat 64 X &&& BitVec.ofNat 64 K) (~~~ BitVec.ofNat 64 X &&& BitVec.ofNat 64 K) (by
    apply BitVec.eq_of_getLsbD_eq; intro i hi
    simp only [BitVec.getLsbD_and, BitVec.getLsbD_not, BitVec.getLsbD_zero]
    cases (BitVec.ofNat 64 X).getLsbD i <;> cases (BitVec.ofNat 64 K).getLsbD i <;> simp)
  have h2 : (BitVec.ofNat 64 X &&& BitVec.ofNat 64 K) ||| (~~~ BitVec.ofNat 64 X &&& BitVec.ofNat 64 K) = BitVec.ofNat 64 K := by
    apply BitVec.eq_of_getLsbD_eq; intro i hi
    simp only [BitVec.getLsbD_or, BitVec.getLsbD_and, BitVec.getLsbD_not]
    cases (BitVec.ofNat 64 X).getLsbD i <;> cases (BitVec.ofNat 64 K).getLsbD i <;> simp [hi]
  rw [h2] at h
  have h3 := congrArg BitVec.toNat h
  rw [BitVec.toNat_add] at h3
  have n1 : (~~~ BitVec.ofNat 64 X).toNat = 18446744073709551615 - X := by
    rw [BitVec.toNat_not, BitVec.toNat_ofNat, Nat.mod_eq_of_lt hX]
  simp only [BitVec.toNat_and, BitVec.toNat_ofNat, n1, Nat.mod_eq_of_lt hX, Nat.mod_eq_of_lt hK] at h3
  have := @Nat.and_le_right X K
  have := @Nat.and_le_right (18446744073709551615 - X) K
  omega

theorem wide_ofB (bs : List Nat) (hl : bs.length = 8) (h : ∀ b ∈ bs, b < 256) : wideW (ofB bs) = ofB (bs.map fun b => 128 * wide b) := by
  have hid : bs.map (fun b => b) = bs := List.map_id' bs
  have r : ∀ b, b < 256 → ((b &&& 15) + 11) < 256 ∧ (((if 128 ≤ 8 * b % 256 then 128 else 0) &&& (128 - (if 128 ≤ 8 * ((b &&& 15) + 11) % 256 then 128 else 0)) : Nat) < 256) ∧ ((if 224 ≤ b then 128 else 0 : Nat) &&& ((if 128 ≤ 8 * b % 256 then 128 else 0) &&& (128 - (if 128 ≤ 8 * ((b &&& 15) + 11) % 256 then 128 else 0)))) = 128 * wide b ∧ ((if 224 ≤ b then 128 else 0 : Nat) &&& 128) = (if 224 ≤ b then 128 else 0 : Nat) := by decide +kernel
  have k1 := and_map (fun b => b) (fun _ => 15) bs h (by intros; omega)
  have k2 := add_map (fun b => b &&& 15) (fun _ => 11) bs
  have k3 := shl_map 8 (by simp) bs 0 (by omega) h (fun b => (b &&& 15) + 11) (fun b hb => (r b (h b hb)).1)
  have k4 := shl_map 8 (by simp) bs 0 (by omega) h (fun b => b) h
  have k5 := (sub_map 128 (fun b => (if 128 ≤ 8 * ((b &&& 15) + 11) % 256 then 128 else 0)) bs (by intros; split <;> omega)).1
  have k6 := and_map (fun b => if 128 ≤ 8 * b % 256 then 128 else 0) (fun b => 128 - (if 128 ≤ 8 * ((b &&& 15) + 11) % 256 then 128 else 0)) bs (by intros; split <;> omega) (by intros; omega)
  have k7 := and_map (fun b => if 224 ≤ b then 128 else 0) _ bs (by intros; split <;> omega) (fun b hb => (r b (h b hb)).2.1)
  have k8 := and_map (fun b => if 224 ≤ b then 128 else 0) (fun _ => 128) bs (by intros; split <;> omega) (by intros; omega)
  have k9 : ofB (bs.map fun b => ((if 224 ≤ b then 128 else 0 : Nat) &&& 128)) = ofB (bs.map fun b => (if 224 ≤ b then 128 else 0 : Nat)) := by
    congr 1; exact List.map_congr_left fun b hb => (r b (h b hb)).2.2.2
  rw [k9] at k8
  have e0 := constB 128 bs hl
  rw [hid, constB 15 bs hl] at k1
  rw [constB 11 bs hl] at k2
  rw [hl] at k3 k4
  rw [hid] at k4
  simp only [Nat.add_zero] at k3 k4
  unfold wideW lowW
  rw [high_ofB bs hl h, show (1085102592571150095 : Nat) = 15 * 72340172838076673 from by decide, show (795741901218843403 : Nat) = 11 * 72340172838076673 from by decide, k1, k2]
  rw [show (18446744073709551616 : Nat) = 256 ^ 8 from by decide]
  rw [and3 k8, k4]
  have k10 : ((18446744073709551615 - 8 * ofB (bs.map fun b => (b &&& 15) + 11) % 256 ^ 8) &&& ofB (bs.map fun _ => 128)) = ofB (bs.map fun _ => 128) - (8 * ofB (bs.map fun b => (b &&& 15) + 11) % 256 ^ 8 &&& ofB (bs.map fun _ => 128)) := by
    have hX : 8 * ofB (bs.map fun b => (b &&& 15) + 11) % 256 ^ 8 < 2 ^ 64 := Nat.mod_lt _ (by decide)
    rw [e0]
    generalize 8 * ofB (bs.map fun b => (b &&& 15) + 11) % 256 ^ 8 = X at hX
    have f2 := part_and X (128 * 72340172838076673) hX (by decide)
    omega
  rw [k10, k3, k5, k6, k7]
  congr 1
  exact List.map_congr_left fun b hb => (r b (h b hb)).2.2.1

theorem wt_id (b : Nat) : wt b + 2 * wide b = b + 5 * opens b := by
  unfold wt wide opens
  split <;> split <;> (try split) <;> omega
theorem wt_lt (b : Nat) (h : b < 256) : wt b < 256 := by
  unfold wt; split <;> (try split) <;> omega
theorem opens_le (b : Nat) : opens b ≤ 1 := by unfold opens; split <;> omega
theorem wide_le (b : Nat) : wide b ≤ 1 := by unfold wide; split <;> omega
theorem ofB_zero (f : Nat → Nat) (bs : List Nat) (h : ofB (bs.map f) = 0) : ∀ b ∈ bs, f b = 0 := by
  induction bs with
  | nil => intro b hb; cases hb
  | cons b bs ih =>
    simp only [List.map_cons, ofB] at h
    intro x hx
    rcases List.mem_cons.mp hx with rfl | hx
    · omega
    · exact ih (by omega) x hx

/-- THE PLAIN LAW: every byte of the word takes its place in the table. -/
theorem weighed_ofB (bs : List Nat) (hl : bs.length = 8) (h : ∀ b ∈ bs, b < 256) : weighed (ofB bs) = ofB (bs.map wt) := by
  have hid : bs.map (fun b => b) = bs := List.map_id' bs
  unfold weighed
  rw [high_ofB bs hl h, opens_ofB bs hl h, wide_ofB bs hl h]
  split
  · next hz =>
    have z := ofB_zero _ bs hz
    have : bs.map wt = bs := by
      conv => rhs; rw [← hid]
      exact List.map_congr_left fun b hb => by
        have := z b hb
        have hb2 : ¬ 224 ≤ b := by intro c; rw [if_pos c] at this; omega
        unfold wt; rw [if_neg (by omega), if_neg (by omega)]
    rw [this]
  · rw [← mul_map 128 opens bs, ← mul_map 128 wide bs, Nat.mul_div_cancel_left _ (by omega), Nat.mul_div_cancel_left _ (by omega)]
    have a1 := add_map wt (fun b => 2 * wide b) bs
    have a2 := add_map (fun b => b) (fun b => 5 * opens b) bs
    have a3 : ofB (bs.map fun b => wt b + 2 * wide b) = ofB (bs.map fun b => b + 5 * opens b) := by
      congr 1; exact List.map_congr_left fun b _ => wt_id b
    rw [hid] at a2
    rw [← mul_map 2 wide bs] at a1
    rw [← mul_map 5 opens bs] at a2
    have l1 := ofB_lt bs h
    have l2 := ofB_lt (bs.map wt) (by intro x hx; obtain ⟨b, hb, rfl⟩ := List.mem_map.mp hx; exact wt_lt b (h b hb))
    have l3 := ofB_lt (bs.map fun b => 5 * opens b) (by intro x hx; obtain ⟨b, hb, rfl⟩ := List.mem_map.mp hx; have := opens_le b; omega)
    have l4 := ofB_lt (bs.map fun b => 2 * wide b) (by intro x hx; obtain ⟨b, hb, rfl⟩ := List.mem_map.mp hx; have := wide_le b; omega)
    rw [← mul_map 5 opens bs] at l3
    rw [← mul_map 2 wide bs] at l4
    simp only [List.length_map, hl] at l1 l2 l3 l4
    have p : (256 : Nat) ^ 8 = 18446744073709551616 := by decide
    rw [p] at l1 l2 l3 l4
    omega

/-- The n lowest bytes of a word. -/
def bytesOf : Nat → Nat → List Nat
  | 0, _ => []
  | n + 1, w => w % 256 :: bytesOf n (w / 256)
theorem bytesOf_len (n w : Nat) : (bytesOf n w).length = n := by
  induction n generalizing w with
  | zero => rfl
  | succ n ih => simp [bytesOf, ih]
theorem bytesOf_lt (n w : Nat) : ∀ b ∈ bytesOf n w, b < 256 := by
  induction n generalizing w with
  | zero => intro b hb; cases hb
  | succ n ih =>
    intro b hb
    simp only [bytesOf, List.mem_cons] at hb
    rcases hb with rfl | hb
    · omega
    · exact ih _ b hb
theorem ofB_bytesOf (n w : Nat) (h : w < 256 ^ n) : ofB (bytesOf n w) = w := by
  induction n generalizing w with
  | zero => simp at h; simp [bytesOf, ofB, h]
  | succ n ih =>
    simp only [bytesOf, ofB]
    rw [ih _ (by rw [Nat.pow_succ] at h; omega)]; omega
theorem weighed_eq (w : Nat) (h : w < 18446744073709551616) : weighed w = ofB ((bytesOf 8 w).map wt) := by
  conv => lhs; rw [← ofB_bytesOf 8 w h]
  exact weighed_ofB _ (bytesOf_len 8 w) (bytesOf_lt 8 w)
end Go.Proofs.Qxb6603421a.WW
