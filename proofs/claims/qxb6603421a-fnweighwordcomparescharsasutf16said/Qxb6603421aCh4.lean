import Derived.Test.Qxb6603421aCh3
namespace Go.Proofs.Qxb6603421a.WW
open Go.RowKit
set_option linter.unusedVariables false

/-! ### The contracts with their results under names -/
theorem put16_to (B : Nat) (L L' : List Nat) (k r n : Nat) (w : World) (hb : at38 w B 38 L) (hL : L.length = 4) (hr : Scalar r) (hk : k + len16 r = n) (hn : n ≤ 4) (hp : put L k (enc16 r) = L') :
    Calls Try.prog 21 #[.pointer (some ⟨B, 0, none⟩), .int .i64 k, .int .i32 r] w fun e w' => e = .returned (.int .i64 n) ∧ at38 w' B 38 L' ∧ Below B w w' ∧ w'.heap.size = w.heap.size ∧ (∀ j, j ≠ B → w'.heap[j]? = w.heap[j]?) := by
  subst hk hp; exact put16_any B L k r w hb hL hr hn
theorem put16_zero (B : Nat) (L L' : List Nat) (r n : Nat) (w : World) (hb : at38 w B 38 L) (hL : L.length = 4) (hr : Scalar r) (hk : len16 r = n) (hn : n ≤ 4) (hp : put L 0 (enc16 r) = L') :
    Calls Try.prog 21 #[.pointer (some ⟨B, 0, none⟩), .int .i64 0, .int .i32 r] w fun e w' => e = .returned (.int .i64 n) ∧ at38 w' B 38 L' ∧ Below B w w' ∧ w'.heap.size = w.heap.size ∧ (∀ j, j ≠ B → w'.heap[j]? = w.heap[j]?) :=
  put16_to B L L' 0 r n w hb hL hr (by omega) hn hp
theorem cmpU_to (x y : Nat) (G : Int) (h : cmp3 x y = G) (w : World) : Calls Try.prog 23 #[.int .u64 x, .int .u64 y] w fun e w' => e = .returned (.int .i64 G) ∧ w' = w := by
  subst h; exact cmpU_any x y w
theorem zz_to (o : Int) (x R : Nat) (h : x < 18446744073709551616) (hR : ord o x = R) (w : World) : Calls Try.prog 17 #[.int .u8 o, .int .u64 x] w fun e w' => e = .returned (.int .u64 R) ∧ w' = w := by
  subst hR; exact zzweigh_any o x w h
theorem pack_to (r1 r2 X : Nat) (h1 : Scalar r1) (h2 : Scalar r2) (hX : word (fun b => b) r1 r2 = X) (w : World) :
    Calls Try.prog 20 #[.int .i32 r1, .int .i32 r2] w fun e w' => e = .returned (.int .u64 (X : Nat)) ∧ Below w.heap.size w w' := by
  subst hX; exact pack_any r1 r2 w h1 h2
theorem cmpI_to (A B : Nat) (x y : List Nat) (la lb ca cb : Nat) (G : Int) (w : World) (hla : x.length = la) (hlb : y.length = lb) (hG : cmpL x y = G) (hxa : la ≤ ca) (hyb : lb ≤ cb) (hx4 : la ≤ 4) (hy4 : lb ≤ 4)
    (hx : ∀ i, i < x.length → w.cell? ⟨A, i, none⟩ = some (.int .i64 (x.getD i 0 : Nat))) (hy : ∀ i, i < y.length → w.cell? ⟨B, i, none⟩ = some (.int .i64 (y.getD i 0 : Nat))) :
    Calls Try.prog 22 #[.slice (some ⟨A, 0, none⟩) la ca, .slice (some ⟨B, 0, none⟩) lb cb] w fun e w' => e = .returned (.int .i64 G) ∧ ∃ n, w' = w.drewN n := by
  subst hla hlb hG; exact cmpI_any A B x y ca cb w hxa hyb hx4 hy4 hx hy
/-- The first cells of a block, as a list that the block's own opens with. -/
theorem cells_take {w : World} {g : Nat} {t : TypeId} {L x : List Nat} {n : Nat} (h : at38 w g t L) (hx : L.take n = x) (hn : n ≤ L.length) (hl : x.length = n) : ∀ i, i < x.length → w.cell? ⟨g, i, none⟩ = some (.int .i64 (x.getD i 0 : Nat)) := fun i hi => by
  rw [at38_cell h i (by omega)]
  have : x.getD i 0 = L.getD i 0 := by
    rw [← hx]; simp only [List.getD_eq_getElem?_getD, List.getElem?_take]; rw [if_pos (by omega)]
  rw [this]
theorem ord_one (x : Nat) : ord 1 x = weighed x := by unfold ord; rw [if_neg (by decide)]
theorem ord_zero (x : Nat) : ord 0 x = x := by unfold ord; rw [if_pos rfl]
theorem put16_two (a b : Nat) : (put (put (List.replicate 4 0) 0 (enc16 a)) (len16 a) (enc16 b)).length = 4 ∧ (put (List.replicate 4 0) 0 (enc16 a)).length = 4 ∧ (put (put (List.replicate 4 0) 0 (enc16 a)) (len16 a) (enc16 b)).take (len16 a + len16 b) = enc16 a ++ enc16 b := by
  have h1 := len16_bd a
  have h2 := len16_bd b
  have e1 : (enc16 a).length = len16 a := rfl
  have e2 : (enc16 b).length = len16 b := rfl
  have l1 : (put (List.replicate 4 0) 0 (enc16 a)).length = 4 := by rw [put_eq _ _ _ (by simp; omega)]; simp; omega
  have t1 : (put (List.replicate 4 0) 0 (enc16 a)).take (len16 a) = enc16 a := by
    rw [put_eq _ _ _ (by simp; omega)]
    simp only [List.take_zero, List.nil_append, List.take_left' e1]
  generalize put (List.replicate 4 0) 0 (enc16 a) = L at *
  refine ⟨by rw [put_eq _ _ _ (by omega)]; simp; omega, l1, ?_⟩
  rw [put_eq (enc16 b) _ _ (by omega), List.take_append_of_le_length (by simp; omega), List.take_of_length_le (by simp; omega), t1]

set_option maxHeartbeats 1600000 in
theorem law16 (a1 a2 b1 b2 : Nat) (h1 : Scalar a1) (h2 : Scalar a2) (h3 : Scalar b1) (h4 : Scalar b2) (w : World) :
    Calls Try.prog 7 #[.int .i32 a1, .int .i32 a2, .int .i32 b1, .int .i32 b2] w fun e w' => e = .returned (.bool true) ∧ Below w.heap.size w w' := by
  obtain ⟨X, hX⟩ : ∃ X, word (fun b => b) a1 a2 = X := ⟨_, rfl⟩
  obtain ⟨Y, hY⟩ : ∃ Y, word (fun b => b) b1 b2 = Y := ⟨_, rfl⟩
  have lX : X < 18446744073709551616 := by rw [← hX]; exact word_lt a1 a2 h1 h2
  have lY : Y < 18446744073709551616 := by rw [← hY]; exact word_lt b1 b2 h3 h4
  obtain ⟨XW, hXW⟩ : ∃ XW, ord 1 X = XW := ⟨_, rfl⟩
  obtain ⟨YW, hYW⟩ : ∃ YW, ord 1 Y = YW := ⟨_, rfl⟩
  have hX0 := ord_zero X
  have hY0 := ord_zero Y
  obtain ⟨G, hG⟩ : ∃ G, lex key16 a1 a2 b1 b2 = G := ⟨_, rfl⟩
  obtain ⟨F, hF⟩ : ∃ F, lex (fun r => r) a1 a2 b1 b2 = F := ⟨_, rfl⟩
  have g1 : cmp3 XW YW = G := by
    rw [← hXW, ← hYW, ← hG, ← cmp_utf16 a1 a2 b1 b2 h1 h2 h3 h4, ← weighed_word a1 a2 h1 h2, ← weighed_word b1 b2 h3 h4, hX, hY, ord_one, ord_one]
  have g2 : cmpL (enc16 a1 ++ enc16 a2) (enc16 b1 ++ enc16 b2) = G := by rw [cmpL_16 a1 a2 b1 b2 h1 h2 h3 h4, hG]
  have g3 : cmp3 X Y = F := by rw [← hX, ← hY, cmp_bytes a1 a2 b1 b2 h1 h2 h3 h4, hF]
  have g4 : cmpL [a1, a2] [b1, b2] = F := by rw [cmpL_two, hF]
  have pa := put16_two a1 a2
  have pb := put16_two b1 b2
  have n1 := len16_bd a1
  have n2 := len16_bd a2
  have n3 := len16_bd b1
  have n4 := len16_bd b2
  have H1 : Hid _ := h1
  have H2 : Hid _ := h2
  have H3 : Hid _ := h3
  have H4 : Hid _ := h4
  have HX : Hid _ := hX
  have HY : Hid _ := hY
  have LX : Hid _ := lX
  have LY : Hid _ := lY
  have HXW : Hid _ := hXW
  have HYW : Hid _ := hYW
  have G1 : Hid _ := g1
  have G2 : Hid _ := g2
  have G3 : Hid _ := g3
  have G4 : Hid _ := g4
  have HX0 : Hid _ := hX0
  have HY0 : Hid _ := hY0
  obtain ⟨m1, hm1⟩ : ∃ m, len16 a1 = m := ⟨_, rfl⟩
  obtain ⟨m2, hm2⟩ : ∃ m, len16 a1 + len16 a2 = m := ⟨_, rfl⟩
  obtain ⟨m3, hm3⟩ : ∃ m, len16 b1 = m := ⟨_, rfl⟩
  obtain ⟨m4, hm4⟩ : ∃ m, len16 b1 + len16 b2 = m := ⟨_, rfl⟩
  have M1 : m1 ≤ 2 := by omega
  have M2 : m2 ≤ 4 := by omega
  have M3 : m3 ≤ 2 := by omega
  have M4 : m4 ≤ 4 := by omega
  have u1 : wrap64 (a1 : Int) = (a1 : Int) := by have := h1.1; unfold wrap64; omega
  have u2 : wrap64 (a2 : Int) = (a2 : Int) := by have := h2.1; unfold wrap64; omega
  have u3 : wrap64 (b1 : Int) = (b1 : Int) := by have := h3.1; unfold wrap64; omega
  have u4 : wrap64 (b2 : Int) = (b2 : Int) := by have := h4.1; unfold wrap64; omega
  have PA : Hid _ := pa
  have PB : Hid _ := pb
  have HM1 : Hid _ := hm1
  have HM2 : Hid _ := hm2
  have HM3 : Hid _ := hm3
  have HM4 : Hid _ := hm4
  clear h1 h2 h3 h4 hX hY lX lY hXW hYW hG hF g1 g2 g3 g4 hX0 hY0 pa pb n1 n2 n3 n4 hm1 hm2 hm3 hm4
  go_enter Try.func7, Try.ntmps7
  go_wp2_with fail
  refine (scalar_yes a1 _ H1.out).mono ?_
  rintro e w' ⟨rfl, hw⟩
  rw [hw]; clear hw w'
  go_wp2_with fail
  refine (scalar_yes a2 _ H2.out).mono ?_
  rintro e w' ⟨rfl, hw⟩
  rw [hw]; clear hw w'
  go_wp2_with fail
  refine (scalar_yes b1 _ H3.out).mono ?_
  rintro e w' ⟨rfl, hw⟩
  rw [hw]; clear hw w'
  go_wp2_with fail
  refine (scalar_yes b2 _ H4.out).mono ?_
  rintro e w' ⟨rfl, hw⟩
  rw [hw]; clear hw w'
  go_wp2_with fail
  refine (pack_to a1 a2 X H1.out H2.out HX.out _).mono ?_
  rintro e w1 ⟨rfl, hb1⟩
  have HB1 : Hid _ := hb1
  clear hb1
  go_wp2_with fail
  refine (pack_to b1 b2 Y H3.out H4.out HY.out _).mono ?_
  rintro e w2 ⟨rfl, hb2⟩
  have HB2 : Hid _ := hb2
  clear hb2
  have z1 : at38 ((w2.alloc (.cells (ncs (List.replicate 4 0)).toArray 38)).alloc (.cells (ncs (List.replicate 4 0)).toArray 38)) w2.heap.size 38 (List.replicate 4 0) := heap_alloc2_old w2 _ _
  have z2 : at38 ((w2.alloc (.cells (ncs (List.replicate 4 0)).toArray 38)).alloc (.cells (ncs (List.replicate 4 0)).toArray 38)) (w2.heap.size + 1) 38 (List.replicate 4 0) := heap_alloc2_new w2 _ _
  have Z1 : Hid _ := z1
  have Z2 : Hid _ := z2
  clear z1 z2
  go_wp2_with fail
  refine (put16_zero w2.heap.size _ _ a1 m1 _ (by exact Z1.out) (by simp) H1.out HM1.out (by omega) rfl).mono ?_
  rintro e w3 ⟨rfl, ha3, hb3, hs3, ho3⟩
  have HA3 : Hid _ := ha3
  have HB3 : Hid _ := hb3
  have HO3 : Hid _ := ho3
  have HS3 : Hid _ := hs3
  clear ha3 hb3 hs3 ho3
  go_wp2_with fail
  refine (put16_to w2.heap.size _ _ m1 a2 m2 w3 HA3.out PA.out.2.1 H2.out (by rw [← HM1.out]; exact HM2.out) (by omega) rfl).mono ?_
  rintro e w4 ⟨rfl, ha4, hb4, hs4, ho4⟩
  have HA4 : Hid _ := ha4
  have HB4 : Hid _ := hb4
  have HO4 : Hid _ := ho4
  have HS4 : Hid _ := hs4
  clear ha4 hb4 hs4 ho4
  go_wp2_with fail
  have ho : w2.heap.size + 1 ≠ w2.heap.size := by omega
  have q2 : at38 w4 (w2.heap.size + 1) 38 (List.replicate 4 0) := (HO4.out _ ho).trans ((HO3.out _ ho).trans Z2.out)
  have Q2 : Hid _ := q2
  clear q2
  refine (put16_zero (w2.heap.size + 1) _ _ b1 m3 w4 Q2.out (by simp) H3.out HM3.out (by omega) rfl).mono ?_
  rintro e w5 ⟨rfl, ha5, hb5, hs5, ho5⟩
  have HA5 : Hid _ := ha5
  have HB5 : Hid _ := hb5
  have HO5 : Hid _ := ho5
  have HS5 : Hid _ := hs5
  clear ha5 hb5 hs5 ho5
  go_wp2_with fail
  refine (put16_to (w2.heap.size + 1) _ _ m3 b2 m4 w5 HA5.out PB.out.2.1 H4.out (by rw [← HM3.out]; exact HM4.out) (by omega) rfl).mono ?_
  rintro e w6 ⟨rfl, ha6, hb6, hs6, ho6⟩
  have ua : at38 w6 w2.heap.size 38 _ := (ho6 _ (by omega)).trans ((HO5.out _ (by omega)).trans HA4.out)
  have ub := ha6
  rw [← HM1.out] at ua
  rw [← HM3.out] at ub
  have hbw : Below w.heap.size w w6 := by
    have e1 := HB1.out.size
    have e2 := HB2.out.size
    have b0 : Below w.heap.size w w2 := HB1.out.trans (HB2.out.mono (by omega))
    have b1 : Below w.heap.size w _ := (b0.alloc (by omega) (.cells (ncs (List.replicate 4 0)).toArray 38)).alloc (by show _ ≤ (w2.heap.push _).size; simp; omega) (.cells (ncs (List.replicate 4 0)).toArray 38)
    exact (((b1.trans (HB3.out.mono (by omega))).trans (HB4.out.mono (by omega))).trans (HB5.out.mono (by omega))).trans (hb6.mono (by omega))
  have cx := cells_take ua PA.out.2.2 (by rw [PA.out.1, HM2.out]; exact M2) (by rw [List.length_append]; rfl)
  have cy := cells_take ub PB.out.2.2 (by rw [PB.out.1, HM4.out]; exact M4) (by rw [List.length_append]; rfl)
  have lx : (enc16 a1 ++ enc16 a2).length = m2 := by rw [List.length_append]; exact HM2.out
  have ly : (enc16 b1 ++ enc16 b2).length = m4 := by rw [List.length_append]; exact HM4.out
  have HBW : Hid _ := hbw
  have CX : Hid _ := cx
  have CY : Hid _ := cy
  have LX' : Hid _ := lx
  have LY' : Hid _ := ly
  clear ha6 hb6 hs6 ho6 ua ub hbw cx cy lx ly HA3 HB3 HO3 HS3 HA4 HB4 HO4 HS4 HA5 HB5 HO5 HS5 Q2 Z1 Z2 HB1 HB2 PA PB HM1 HM2 HM3 HM4
  have j1 : (m2 : Int) ≤ 4 := by omega
  have j2 : (m4 : Int) ≤ 4 := by omega
  go_wp2_with fail
  go_quiet ((go_at_call 22; exact Calls.quiet_of (cmpI_to w2.heap.size (w2.heap.size + 1) _ _ m2 m4 4 4 G _ LX'.out LY'.out G2.out M2 M4 M2 M4 CX.out CY.out)))
  obtain ⟨w7, hw7⟩ : ∃ w7, w7 = w6.drewN nq := ⟨_, rfl⟩
  rw [← hw7]
  have HW7 : Hid (Below w.heap.size w w7) := by unfold Hid; rw [hw7]; exact below_drewN HBW.out _
  clear hw7 HBW CX CY
  go_wp2_with fail
  refine (zz_to 1 X XW LX.out HXW.out _).mono ?_
  rintro e w' ⟨rfl, hw⟩
  rw [hw]; clear hw w'
  go_wp2_with fail
  refine (zz_to 1 Y YW LY.out HYW.out _).mono ?_
  rintro e w' ⟨rfl, hw⟩
  rw [hw]; clear hw w'
  go_wp2_with fail
  refine (cmpU_to XW YW G G1.out _).mono ?_
  rintro e w' ⟨rfl, hw⟩
  rw [hw]; clear hw w'
  go_wp2_with fail
  have c2 : ∀ i, i < ([a1, a2] : List Nat).length → ((w7.alloc (.cells (ncs [a1, a2]).toArray 44)).alloc (.cells (ncs [b1, b2]).toArray 44)).cell? ⟨w7.heap.size, i, none⟩ = some (.int .i64 (([a1, a2] : List Nat).getD i 0 : Nat)) := fun i hi => at38_cell (t := 44) (heap_alloc2_old w7 _ _) i hi
  have d2 : ∀ i, i < ([b1, b2] : List Nat).length → ((w7.alloc (.cells (ncs [a1, a2]).toArray 44)).alloc (.cells (ncs [b1, b2]).toArray 44)).cell? ⟨w7.heap.size + 1, i, none⟩ = some (.int .i64 (([b1, b2] : List Nat).getD i 0 : Nat)) := fun i hi => at38_cell (t := 44) (heap_alloc2_new w7 _ _) i hi
  have C2 : Hid _ := c2
  have D2 : Hid _ := d2
  clear c2 d2
  go_quiet ((go_at_call 22; exact Calls.quiet_of (cmpI_to w7.heap.size (w7.heap.size + 1) [a1, a2] [b1, b2] 2 2 2 2 F _ rfl rfl G4.out (Nat.le_refl _) (Nat.le_refl _) (by omega) (by omega) C2.out D2.out)))
  go_wp2_with fail
  refine (zz_to 0 X X LX.out HX0.out _).mono ?_
  rintro e w' ⟨rfl, hw⟩
  rw [hw]; clear hw w'
  go_wp2_with fail
  refine (zz_to 0 Y Y LY.out HY0.out _).mono ?_
  rintro e w' ⟨rfl, hw⟩
  rw [hw]; clear hw w'
  go_wp2_with fail
  refine (cmpU_to X Y F G3.out _).mono ?_
  rintro e w' ⟨rfl, hw⟩
  rw [hw]; clear hw w'
  go_wp2
  go_ret
  have hs7 := HW7.out.size
  exact ⟨rfl, below_drewN ((HW7.out.alloc hs7 _).alloc (by show _ ≤ (w7.heap.push _).size; simp; omega) _) _⟩
theorem law_no1 (a1 : Int) (a2 : Int) (b1 : Int) (b2 : Int)  (hn : ¬ (0 ≤ a1 ∧ Scalar a1.toNat)) (w : World) :
    Calls Try.prog 7 #[.int .i32 a1, .int .i32 a2, .int .i32 b1, .int .i32 b2] w fun e w' => e = .returned (.bool true) ∧ Below w.heap.size w w' := by
  have HN : Hid _ := hn
  clear hn
  go_enter Try.func7, Try.ntmps7
  go_wp2_with fail
  refine (scalar_no a1 _ HN.out).mono ?_
  rintro e w' ⟨rfl, hw⟩
  rw [hw]; clear hw w'
  go_wp2
  go_ret
  exact ⟨rfl, Below.refl _ _⟩
theorem law_no2 (a1 : Nat) (a2 : Int) (b1 : Int) (b2 : Int) (h1 : Scalar a1) (hn : ¬ (0 ≤ a2 ∧ Scalar a2.toNat)) (w : World) :
    Calls Try.prog 7 #[.int .i32 (a1 : Int), .int .i32 a2, .int .i32 b1, .int .i32 b2] w fun e w' => e = .returned (.bool true) ∧ Below w.heap.size w w' := by
  have HN : Hid _ := hn
  have H1 : Hid _ := h1
  clear hn h1
  go_enter Try.func7, Try.ntmps7
  go_wp2_with fail
  refine (scalar_yes a1 _ H1.out).mono ?_
  rintro e w' ⟨rfl, hw⟩
  rw [hw]; clear hw w'
  go_wp2_with fail
  refine (scalar_no a2 _ HN.out).mono ?_
  rintro e w' ⟨rfl, hw⟩
  rw [hw]; clear hw w'
  go_wp2
  go_ret
  exact ⟨rfl, Below.refl _ _⟩
theorem law_no3 (a1 : Nat) (a2 : Nat) (b1 : Int) (b2 : Int) (h1 : Scalar a1) (h2 : Scalar a2) (hn : ¬ (0 ≤ b1 ∧ Scalar b1.toNat)) (w : World) :
    Calls Try.prog 7 #[.int .i32 (a1 : Int), .int .i32 (a2 : Int), .int .i32 b1, .int .i32 b2] w fun e w' => e = .returned (.bool true) ∧ Below w.heap.size w w' := by
  have HN : Hid _ := hn
  have H1 : Hid _ := h1
  have H2 : Hid _ := h2
  clear hn h1 h2
  go_enter Try.func7, Try.ntmps7
  go_wp2_with fail
  refine (scalar_yes a1 _ H1.out).mono ?_
  rintro e w' ⟨rfl, hw⟩
  rw [hw]; clear hw w'
  go_wp2_with fail
  refine (scalar_yes a2 _ H2.out).mono ?_
  rintro e w' ⟨rfl, hw⟩
  rw [hw]; clear hw w'
  go_wp2_with fail
  refine (scalar_no b1 _ HN.out).mono ?_
  rintro e w' ⟨rfl, hw⟩
  rw [hw]; clear hw w'
  go_wp2
  go_ret
  exact ⟨rfl, Below.refl _ _⟩
theorem law_no4 (a1 : Nat) (a2 : Nat) (b1 : Nat) (b2 : Int) (h1 : Scalar a1) (h2 : Scalar a2) (h3 : Scalar b1) (hn : ¬ (0 ≤ b2 ∧ Scalar b2.toNat)) (w : World) :
    Calls Try.prog 7 #[.int .i32 (a1 : Int), .int .i32 (a2 : Int), .int .i32 (b1 : Int), .int .i32 b2] w fun e w' => e = .returned (.bool true) ∧ Below w.heap.size w w' := by
  have HN : Hid _ := hn
  have H1 : Hid _ := h1
  have H2 : Hid _ := h2
  have H3 : Hid _ := h3
  clear hn h1 h2 h3
  go_enter Try.func7, Try.ntmps7
  go_wp2_with fail
  refine (scalar_yes a1 _ H1.out).mono ?_
  rintro e w' ⟨rfl, hw⟩
  rw [hw]; clear hw w'
  go_wp2_with fail
  refine (scalar_yes a2 _ H2.out).mono ?_
  rintro e w' ⟨rfl, hw⟩
  rw [hw]; clear hw w'
  go_wp2_with fail
  refine (scalar_yes b1 _ H3.out).mono ?_
  rintro e w' ⟨rfl, hw⟩
  rw [hw]; clear hw w'
  go_wp2_with fail
  refine (scalar_no b2 _ HN.out).mono ?_
  rintro e w' ⟨rfl, hw⟩
  rw [hw]; clear hw w'
  go_wp2
  go_ret
  exact ⟨rfl, Below.refl _ _⟩
theorem law7 (a1 a2 b1 b2 : Int) (w : World) :
    Calls Try.prog 7 #[.int .i32 a1, .int .i32 a2, .int .i32 b1, .int .i32 b2] w fun e w' => e = .returned (.bool true) ∧ Below w.heap.size w w' := by
  by_cases h1 : 0 ≤ a1 ∧ Scalar a1.toNat
  · obtain ⟨p1, q1⟩ := h1
    obtain ⟨x1, rfl⟩ := Int.eq_ofNat_of_zero_le p1
    by_cases h2 : 0 ≤ a2 ∧ Scalar a2.toNat
    · obtain ⟨p2, q2⟩ := h2
      obtain ⟨x2, rfl⟩ := Int.eq_ofNat_of_zero_le p2
      by_cases h3 : 0 ≤ b1 ∧ Scalar b1.toNat
      · obtain ⟨p3, q3⟩ := h3
        obtain ⟨x3, rfl⟩ := Int.eq_ofNat_of_zero_le p3
        by_cases h4 : 0 ≤ b2 ∧ Scalar b2.toNat
        · obtain ⟨p4, q4⟩ := h4
          obtain ⟨x4, rfl⟩ := Int.eq_ofNat_of_zero_le p4
          exact law16 x1 x2 x3 x4 q1 q2 q3 q4 w
        · exact law_no4 x1 x2 x3 b2 q1 q2 q3 h4 w
      · exact law_no3 x1 x2 b1 b2 q1 q2 h3 w
    · exact law_no2 x1 a2 b1 b2 q1 h2 w
  · exact law_no1 a1 a2 b1 b2 h1 w
end Go.Proofs.Qxb6603421a.WW
