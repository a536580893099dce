import Derived.Test.Qxb6603421aWord
namespace Go.Proofs.Qxb6603421a.WW

/-! ### Characters, their UTF-8 bytes and their UTF-16 units: no Go in sight -/
def Scalar (r : Nat) : Prop := r ≤ 1114111 ∧ (r < 55296 ∨ 57343 < r)
/-- How many bytes r takes. -/
def len8 (r : Nat) : Nat := if r < 128 then 1 else if r < 2048 then 2 else if r < 65536 then 3 else 4
def enc8 (r : Nat) : List Nat :=
  if r < 128 then [r]
  else if r < 2048 then [192 + r / 64, 128 + r % 64]
  else if r < 65536 then [224 + r / 4096, 128 + r / 64 % 64, 128 + r % 64]
  else [240 + r / 262144, 128 + r / 4096 % 64, 128 + r / 64 % 64, 128 + r % 64]
theorem enc8_len (r : Nat) : (enc8 r).length = len8 r := by unfold enc8 len8; repeat (first | split | rfl)
theorem len8_bd (r : Nat) : 1 ≤ len8 r ∧ len8 r ≤ 4 := by unfold len8; repeat (first | split | omega)
theorem enc8_lt (r : Nat) (h : Scalar r) : ∀ b ∈ enc8 r, b < 256 := by
  obtain ⟨h1, _⟩ := h
  intro b hb
  unfold enc8 at hb
  split at hb
  · simp at hb; omega
  · split at hb
    · simp at hb; omega
    · split at hb
      · simp at hb; omega
      · simp at hb; omega
/-- The bytes, the first the highest, as a number of four bytes. -/
def top (f : Nat → Nat) (r : Nat) : Nat := ofB ((enc8 r).map f).reverse * 256 ^ (4 - len8 r)

theorem ofB_append (xs ys : List Nat) : ofB (xs ++ ys) = ofB xs + 256 ^ xs.length * ofB ys := by
  induction xs with
  | nil => simp [ofB]
  | cons x xs ih => simp only [List.cons_append, ofB, ih, List.length_cons, Nat.pow_succ]; rw [Nat.mul_add, ← Nat.add_assoc, Nat.mul_comm (256 ^ xs.length) 256, Nat.mul_assoc]
theorem ofB_zeros (n : Nat) : ofB (List.replicate n 0) = 0 := by
  induction n with
  | zero => rfl
  | succ n ih => simp [List.replicate_succ, ofB, ih]
/-- The word of a name of two characters, its bytes seen through f. -/
def word (f : Nat → Nat) (r1 r2 : Nat) : Nat := ofB ((enc8 r1 ++ enc8 r2 ++ List.replicate (8 - len8 r1 - len8 r2) 0).map f).reverse
theorem word_eq (f : Nat → Nat) (hf : f 0 = 0) (r1 r2 : Nat) : word f r1 r2 = top f r1 * 256 ^ 4 + top f r2 * 256 ^ (4 - len8 r1) := by
  have b1 := len8_bd r1
  have b2 := len8_bd r2
  unfold word top
  simp only [List.map_append, List.reverse_append, List.map_replicate, hf, List.reverse_replicate]
  rw [ofB_append, ofB_append, ofB_zeros, List.length_replicate, List.length_reverse, List.length_map, enc8_len]
  generalize ofB ((enc8 r1).map f).reverse = A
  generalize ofB ((enc8 r2).map f).reverse = B
  rw [Nat.zero_add, Nat.mul_add]
  have e1 : (256 : Nat) ^ (8 - len8 r1 - len8 r2) * (256 ^ len8 r2 * A) = A * 256 ^ (4 - len8 r1) * 256 ^ 4 := by
    rw [← Nat.mul_assoc, ← Nat.pow_add, Nat.mul_assoc A, ← Nat.pow_add, Nat.mul_comm]
    congr 2; omega
  have e2 : (256 : Nat) ^ (8 - len8 r1 - len8 r2) * B = B * 256 ^ (4 - len8 r2) * 256 ^ (4 - len8 r1) := by
    rw [Nat.mul_assoc B, ← Nat.pow_add, Nat.mul_comm]
    congr 2; omega
  omega
def key16 (r : Nat) : Nat := if r < 55296 then r else if r < 65536 then r + 1048576 else r - 10240
theorem key16_inj (a b : Nat) (ha : Scalar a) (hb : Scalar b) (h : key16 a = key16 b) : a = b := by
  obtain ⟨a1, a2⟩ := ha
  obtain ⟨b1, b2⟩ := hb
  unfold key16 at h
  repeat (first | split at h | omega)
theorem top_id (r : Nat) : top (fun b => b) r = if r < 128 then r * 16777216 else if r < 2048 then (192 + r / 64) * 16777216 + (128 + r % 64) * 65536
    else if r < 65536 then (224 + r / 4096) * 16777216 + (128 + r / 64 % 64) * 65536 + (128 + r % 64) * 256
    else (240 + r / 262144) * 16777216 + (128 + r / 4096 % 64) * 65536 + (128 + r / 64 % 64) * 256 + (128 + r % 64) := by
  unfold top enc8 len8
  by_cases h1 : r < 128
  · simp [h1, ofB]
  · by_cases h2 : r < 2048
    · simp [h1, h2, ofB]; omega
    · by_cases h3 : r < 65536
      · simp [h1, h2, h3, ofB]; omega
      · simp [h1, h2, h3, ofB]; omega
theorem top_wt (r : Nat) (hr : Scalar r) : top wt r = if r < 128 then r * 16777216 else if r < 2048 then (192 + r / 64) * 16777216 + (128 + r % 64) * 65536
    else if r < 57344 then (224 + r / 4096) * 16777216 + (128 + r / 64 % 64) * 65536 + (128 + r % 64) * 256
    else if r < 65536 then (229 + r / 4096) * 16777216 + (128 + r / 64 % 64) * 65536 + (128 + r % 64) * 256
    else (238 + r / 262144) * 16777216 + (128 + r / 4096 % 64) * 65536 + (128 + r / 64 % 64) * 256 + (128 + r % 64) := by
  obtain ⟨hr1, hr2⟩ := hr
  have w0 : ∀ b, b < 238 → wt b = b := fun b hb => by unfold wt; rw [if_neg (by omega), if_neg (by omega)]
  have c1 := w0 (128 + r % 64) (by omega)
  have c2 := w0 (128 + r / 64 % 64) (by omega)
  have c3 := w0 (128 + r / 4096 % 64) (by omega)
  unfold top enc8 len8
  by_cases h1 : r < 128
  · have := w0 r (by omega)
    simp [h1, ofB, this]
  · by_cases h2 : r < 2048
    · have := w0 (192 + r / 64) (by omega)
      simp [h1, h2, ofB, this, c1]; omega
    · by_cases h3 : r < 57344
      · have := w0 (224 + r / 4096) (by omega)
        simp [h1, h2, h3, show r < 65536 by omega, ofB, this, c1, c2]; omega
      · by_cases h4 : r < 65536
        · have : wt (224 + r / 4096) = 229 + r / 4096 := by unfold wt; rw [if_pos (by omega)]; omega
          simp [h1, h2, h3, h4, ofB, this, c1, c2]; omega
        · have : wt (240 + r / 262144) = 238 + r / 262144 := by unfold wt; rw [if_neg (by omega), if_pos (by omega)]; omega
          simp [h1, h2, h3, h4, ofB, this, c1, c2, c3]; omega

def unit (r : Nat) : Nat := if r < 128 then 16777216 else if r < 2048 then 65536 else if r < 65536 then 256 else 1
theorem unit_eq (r : Nat) : 256 ^ (4 - len8 r) = unit r := by unfold len8 unit; repeat (first | split | rfl)
theorem unit_pos (r : Nat) : 0 < unit r := by unfold unit; repeat (first | split | omega)
theorem order_id (a b : Nat) (hb : Scalar b) (h : a < b) : top (fun b => b) a + unit a ≤ top (fun b => b) b := by
  obtain ⟨h1, _⟩ := hb
  rw [top_id, top_id]; unfold unit
  repeat' split
  all_goals omega
theorem top_lt_id (a : Nat) (ha : Scalar a) : top (fun b => b) a < 4294967296 := by
  obtain ⟨h1, _⟩ := ha
  rw [top_id]
  repeat' split
  all_goals omega
theorem order_wt (a b : Nat) (ha : Scalar a) (hb : Scalar b) (h : key16 a < key16 b) : top wt a + unit a ≤ top wt b := by
  rw [top_wt a ha, top_wt b hb]
  obtain ⟨a1, a2⟩ := ha
  obtain ⟨b1, b2⟩ := hb
  unfold key16 at h
  unfold unit
  by_cases p1 : a < 128
  · rw [if_pos p1, if_pos p1]; repeat' split
    all_goals (split at h <;> (try split at h) <;> omega)
  · rw [if_neg p1, if_neg p1]
    by_cases p2 : a < 2048
    · rw [if_pos p2, if_pos p2]; repeat' split
      all_goals (split at h <;> (try split at h) <;> omega)
    · rw [if_neg p2, if_neg p2]
      by_cases p3 : a < 57344
      · rw [if_pos p3, if_pos (by omega : a < 65536)]; rw [if_pos (by omega : a < 55296)] at h; repeat' split
        all_goals (try split at h) <;> (try split at h) <;> omega
      · rw [if_neg p3]; rw [if_neg (by omega : ¬ a < 55296)] at h
        by_cases p4 : a < 65536
        · rw [if_pos p4, if_pos p4]; rw [if_pos p4] at h; repeat' split
          all_goals (try split at h) <;> (try split at h) <;> omega
        · rw [if_neg p4, if_neg p4]; rw [if_neg p4] at h; repeat' split
          all_goals (try split at h) <;> (try split at h) <;> omega
theorem top_lt_wt (a : Nat) (ha : Scalar a) : top wt a < 4294967296 := by
  rw [top_wt a ha]
  obtain ⟨h1, _⟩ := ha
  repeat' split
  all_goals omega
/-- Three-way comparison. -/
def cmp3 (x y : Nat) : Int := if x < y then -1 else if y < x then 1 else 0
def lex (k : Nat → Nat) (a1 a2 b1 b2 : Nat) : Int := if k a1 = k b1 then cmp3 (k a2) (k b2) else cmp3 (k a1) (k b1)
theorem cmp_word (f k : Nat → Nat) (hf : f 0 = 0) (inj : ∀ a b, Scalar a → Scalar b → k a = k b → a = b) (ord : ∀ a b, Scalar a → Scalar b → k a < k b → top f a + unit a ≤ top f b) (lt : ∀ a, Scalar a → top f a < 4294967296)
    (a1 a2 b1 b2 : Nat) (h1 : Scalar a1) (h2 : Scalar a2) (h3 : Scalar b1) (h4 : Scalar b2) : cmp3 (word f a1 a2) (word f b1 b2) = lex k a1 a2 b1 b2 := by
  have strict : ∀ a1 a2 b1 b2, Scalar a1 → Scalar a2 → Scalar b1 → k a1 < k b1 → word f a1 a2 < word f b1 b2 := by
    intro a1 a2 b1 b2 h1 h2 h3 h
    rw [word_eq f hf, word_eq f hf, unit_eq, unit_eq]
    have o := ord a1 b1 h1 h3 h
    have l := lt a2 h2
    have m : top f a2 * unit a1 < 4294967296 * unit a1 := Nat.mul_lt_mul_of_pos_right l (unit_pos a1)
    have e : (256 : Nat) ^ 4 = 4294967296 := by decide
    rw [e]
    have m2 : (top f a1 + unit a1) * 4294967296 ≤ top f b1 * 4294967296 := Nat.mul_le_mul_right _ o
    have m3 := Nat.zero_le (top f b2 * unit b1)
    generalize top f a2 * unit a1 = X at *
    generalize top f b2 * unit b1 = Y at *
    omega
  have same : ∀ a a2 b2, Scalar a → Scalar a2 → Scalar b2 → k a2 < k b2 → word f a a2 < word f a b2 := by
    intro a a2 b2 h h2 h4 hlt
    rw [word_eq f hf, word_eq f hf, unit_eq]
    have o := ord a2 b2 h2 h4 hlt
    have u := unit_pos a2
    have m : top f a2 * unit a < top f b2 * unit a := Nat.mul_lt_mul_of_pos_right (by omega) (unit_pos a)
    omega
  unfold lex
  by_cases e : k a1 = k b1
  · have e1 := inj a1 b1 h1 h3 e
    subst e1
    rw [if_pos rfl]
    unfold cmp3
    by_cases p : k a2 < k b2
    · rw [if_pos p, if_pos (same a1 a2 b2 h1 h2 h4 p)]
    · by_cases q : k b2 < k a2
      · have := same a1 b2 a2 h1 h4 h2 q
        rw [if_neg p, if_pos q, if_neg (by omega), if_pos this]
      · have e2 := inj a2 b2 h2 h4 (by omega)
        subst e2
        simp
  · rw [if_neg e]
    unfold cmp3
    by_cases p : k a1 < k b1
    · rw [if_pos p, if_pos (strict a1 a2 b1 b2 h1 h2 h3 p)]
    · have := strict b1 b2 a1 a2 h3 h4 h1 (by omega)
      have q : k b1 < k a1 := by omega
      rw [if_neg p, if_pos q, if_neg (show ¬ word f a1 a2 < word f b1 b2 by omega), if_pos this]
theorem cmp_bytes (a1 a2 b1 b2 : Nat) (h1 : Scalar a1) (h2 : Scalar a2) (h3 : Scalar b1) (h4 : Scalar b2) : cmp3 (word (fun b => b) a1 a2) (word (fun b => b) b1 b2) = lex (fun r => r) a1 a2 b1 b2 :=
  cmp_word _ _ rfl (fun _ _ _ _ h => h) (fun a b _ hb h => order_id a b hb h) top_lt_id a1 a2 b1 b2 h1 h2 h3 h4
theorem cmp_utf16 (a1 a2 b1 b2 : Nat) (h1 : Scalar a1) (h2 : Scalar a2) (h3 : Scalar b1) (h4 : Scalar b2) : cmp3 (word wt a1 a2) (word wt b1 b2) = lex key16 a1 a2 b1 b2 :=
  cmp_word _ _ rfl key16_inj order_wt top_lt_wt a1 a2 b1 b2 h1 h2 h3 h4

/-- The eight bytes of a name. -/
def name8 (r1 r2 : Nat) : List Nat := enc8 r1 ++ enc8 r2 ++ List.replicate (8 - len8 r1 - len8 r2) 0
theorem name8_len (r1 r2 : Nat) : (name8 r1 r2).length = 8 := by
  have := len8_bd r1; have := len8_bd r2
  simp [name8, enc8_len]; omega
theorem name8_lt (r1 r2 : Nat) (h1 : Scalar r1) (h2 : Scalar r2) : ∀ b ∈ name8 r1 r2, b < 256 := by
  intro b hb
  simp only [name8, List.mem_append] at hb
  rcases hb with (hb | hb) | hb
  · exact enc8_lt r1 h1 b hb
  · exact enc8_lt r2 h2 b hb
  · have := List.eq_of_mem_replicate hb; omega
theorem weighed_word (r1 r2 : Nat) (h1 : Scalar r1) (h2 : Scalar r2) : weighed (word (fun b => b) r1 r2) = word wt r1 r2 := by
  have e : word (fun b => b) r1 r2 = ofB (name8 r1 r2).reverse := by unfold word name8; rw [List.map_id']
  rw [e, weighed_ofB _ (by simp [name8_len]) (fun b hb => name8_lt r1 r2 h1 h2 b (by simpa using hb))]
  unfold word name8; rw [List.map_reverse]
theorem word_lt (r1 r2 : Nat) (h1 : Scalar r1) (h2 : Scalar r2) : word (fun b => b) r1 r2 < 18446744073709551616 := by
  have e : word (fun b => b) r1 r2 = ofB (name8 r1 r2).reverse := by unfold word name8; rw [List.map_id']
  have := ofB_lt (name8 r1 r2).reverse (fun b hb => name8_lt r1 r2 h1 h2 b (by simpa using hb))
  rw [List.length_reverse, name8_len] at this
  rw [e]; exact this

/-! ### UTF-16 -/
def enc16 (r : Nat) : List Nat := if r < 65536 then [r] else [55296 + (r - 65536) / 1024, 56320 + (r - 65536) % 1024]
/-- Two lists of numbers compared, the shorter one first where one opens the other. -/
def cmpL : List Nat → List Nat → Int
  | [], [] => 0
  | [], _ :: _ => -1
  | _ :: _, [] => 1
  | a :: x, b :: y => if a < b then -1 else if b < a then 1 else cmpL x y
theorem cmpL_one (a b : Nat) : cmpL [a] [b] = cmp3 a b := by simp [cmpL, cmp3]
theorem cmpL_same (x y z : List Nat) : cmpL (x ++ y) (x ++ z) = cmpL y z := by
  induction x with
  | nil => rfl
  | cons a x ih => simp [cmpL, ih]
theorem cmpL_diff (a b : Nat) (ha : Scalar a) (hb : Scalar b) (hne : a ≠ b) (y z : List Nat) : cmpL (enc16 a ++ y) (enc16 b ++ z) = cmp3 (key16 a) (key16 b) := by
  obtain ⟨a1, a2⟩ := ha
  obtain ⟨b1, b2⟩ := hb
  unfold enc16
  by_cases p : a < 65536
  · by_cases q : b < 65536
    · simp only [if_pos p, if_pos q, List.cons_append, List.nil_append, cmpL, cmp3, key16]
      repeat' split
      all_goals first | rfl | omega
    · simp only [if_pos p, if_neg q, List.cons_append, List.nil_append, cmpL, cmp3, key16]
      repeat' split
      all_goals first | rfl | omega
  · by_cases q : b < 65536
    · simp only [if_neg p, if_pos q, List.cons_append, List.nil_append, cmpL, cmp3, key16]
      repeat' split
      all_goals first | rfl | omega
    · simp only [if_neg p, if_neg q, List.cons_append, List.nil_append, cmpL, cmp3, key16]
      repeat' split
      all_goals first | rfl | omega
theorem cmp3_self (a : Nat) : cmp3 a a = 0 := by simp [cmp3]
theorem cmpL_nil (x : List Nat) : cmpL x x = 0 := by
  induction x with
  | nil => rfl
  | cons a x ih => simp [cmpL, ih]
theorem cmpL_16 (a1 a2 b1 b2 : Nat) (h1 : Scalar a1) (h2 : Scalar a2) (h3 : Scalar b1) (h4 : Scalar b2) : cmpL (enc16 a1 ++ enc16 a2) (enc16 b1 ++ enc16 b2) = lex key16 a1 a2 b1 b2 := by
  unfold lex
  by_cases e : a1 = b1
  · subst e
    rw [if_pos rfl, cmpL_same]
    by_cases e2 : a2 = b2
    · subst e2; rw [cmpL_nil, cmp3_self]
    · have := cmpL_diff a2 b2 h2 h4 e2 [] []
      simpa using this
  · rw [if_neg (fun h => e (key16_inj a1 b1 h1 h3 h))]
    exact cmpL_diff a1 b1 h1 h3 e _ _
theorem cmpL_two (a1 a2 b1 b2 : Nat) : cmpL [a1, a2] [b1, b2] = lex (fun r => r) a1 a2 b1 b2 := by
  simp only [cmpL, lex, cmp3]
  repeat' split
  all_goals first | rfl | omega
end Go.Proofs.Qxb6603421a.WW
