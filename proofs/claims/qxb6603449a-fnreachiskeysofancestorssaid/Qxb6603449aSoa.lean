import Derived.Test.Qxb6603449aSo9
namespace Go.Proofs.Qxb6603449a.SO
open Go.RowKit
set_option linter.unusedVariables false
set_option linter.unusedSimpArgs false

/-! ### pdqsortOrdered: what stands when [a, b) is left -/
structure Pq (a0 b0 a b : Nat) (e : Fn) : Prop where
  left : ∀ x y, a0 ≤ x → x ≤ y → x < a → y < b0 → e x ≤ e y
  right : ∀ x y, a0 ≤ x → x ≤ y → b ≤ y → y < b0 → e x ≤ e y
theorem pq_start (a0 b0 : Nat) (e : Fn) : Pq a0 b0 a0 b0 e := ⟨fun x y h1 h2 h3 h4 => by omega, fun x y h1 h2 h3 h4 => by omega⟩
theorem Pq.fin {a0 b0 a b : Nat} {e : Fn} (h : Pq a0 b0 a b e) (hs : Srt a b e) : Srt a0 b0 e := fun t h1 h2 => by
  by_cases c1 : t - 1 < a
  · exact h.left _ _ (by omega) (by omega) c1 h2
  · by_cases c2 : b ≤ t
    · exact h.right _ _ (by omega) (by omega) c2 h2
    · exact hs t (by omega) (by omega)
theorem Pq.on {a0 b0 a b : Nat} {e f : Fn} (h : Pq a0 b0 a b e) (hs : Sw a b e f) (ha : a0 ≤ a) (hab : a ≤ b) (hb : b ≤ b0) : Pq a0 b0 a b f := by
  have out : ∀ k, k < a ∨ b ≤ k → f k = e k := fun k hk => hs.out hk
  refine ⟨fun x y h1 h2 h3 h4 => ?_, fun x y h1 h2 h3 h4 => ?_⟩
  · rw [out x (Or.inl h3)]
    by_cases c : y < a ∨ b ≤ y
    · rw [out y c]; exact h.left x y h1 h2 h3 h4
    · exact hs.all (fun v => e x ≤ v) (fun k k1 k2 => h.left x k h1 (by omega) h3 (by omega)) y (by omega) (by omega)
  · rw [out y (Or.inr h3)]
    by_cases c : x < a ∨ b ≤ x
    · rw [out x c]; exact h.right x y h1 h2 h3 h4
    · exact hs.all (fun v => v ≤ e y) (fun k k1 k2 => h.right k y (by omega) (by omega) h3 h4) x (by omega) (by omega)
theorem Pq.sw0 {a0 b0 a b : Nat} {d e f : Fn} (h : Sw a0 b0 d e) (hs : Sw a b e f) (ha : a0 ≤ a) (hb : b ≤ b0) : Sw a0 b0 d f := h.trans (hs.wide ha hb)
/-- behind partitionEqual -/
theorem Pq.eq_ {a0 b0 a b i : Nat} {e : Fn} {p : Int} (h : Pq a0 b0 a b e) (ha : a0 ≤ a) (hb : b ≤ b0) (hi : a < i) (hib : i ≤ b) (hp : Pe a b i (i - 1) e p) (hlo : ∀ k, a ≤ k → k < b → p ≤ e k) : Pq a0 b0 i b e ∧ Floor i b e := by
  have all : ∀ k, a ≤ k → k < i → e k = p := fun k k1 k2 => by
    by_cases c : k = a
    · rw [c]; exact hp.at_
    · have := hp.low k (by omega) k2; have := hlo k k1 (by omega); omega
  refine ⟨⟨fun x y h1 h2 h3 h4 => ?_, h.right⟩, fun _ k k1 k2 => ?_⟩
  · by_cases c : x < a
    · exact h.left x y h1 h2 c h4
    · rw [all x (by omega) h3]
      by_cases c2 : y < b
      · exact hlo y (by omega) c2
      · have := h.right x y h1 h2 (by omega) h4
        rw [all x (by omega) h3] at this; exact this
  · rw [all (i - 1) (by omega) (by omega)]; exact hlo k (by omega) k2
/-- behind partition and the sorted left part -/
theorem Pq.left_ {a0 b0 a b m : Nat} {e f : Fn} (h : Pq a0 b0 a b e) (ha : a0 ≤ a) (hb : b ≤ b0) (hm1 : a ≤ m) (hm2 : m < b) (hsp : Split a b m e) (hs : Sw a m e f) (hso : Srt a m f) : Pq a0 b0 (m + 1) b f ∧ Floor (m + 1) b f := by
  have h2 := h.on (hs.wide (Nat.le_refl _) (by omega)) ha (by omega) hb
  have out : ∀ k, m ≤ k → f k = e k := fun k hk => hs.out (Or.inr hk)
  have low : ∀ k, a ≤ k → k < m → f k ≤ f m := by
    rw [out m (Nat.le_refl _)]
    exact hs.all (fun v => v ≤ e m) hsp.1
  have high : ∀ k, m < k → k < b → f m ≤ f k := fun k k1 k2 => by rw [out m (Nat.le_refl _), out k (by omega)]; exact hsp.2 k k1 k2
  refine ⟨⟨fun x y h1 h3 h4 h5 => ?_, h2.right⟩, fun _ k k1 k2 => ?_⟩
  · by_cases c : x < a
    · exact h2.left x y h1 h3 c h5
    · by_cases c2 : b ≤ y
      · exact h2.right x y h1 h3 c2 h5
      · by_cases c3 : x = m
        · by_cases c4 : y = m
          · rw [c3, c4]; exact Int.le_refl _
          · rw [c3]; exact high y (by omega) (by omega)
        · by_cases c4 : y < m
          · exact hso.pair (by omega) h3 c4
          · have l1 := low x (by omega) (by omega)
            by_cases c5 : y = m
            · rw [c5]; exact l1
            · exact Int.le_trans l1 (high y (by omega) (by omega))
  · rw [show m + 1 - 1 = m from by omega]; exact high k (by omega) k2
/-- behind partition and the sorted right part -/
theorem Pq.right_ {a0 b0 a b m : Nat} {e f : Fn} (h : Pq a0 b0 a b e) (ha : a0 ≤ a) (hb : b ≤ b0) (hm1 : a ≤ m) (hm2 : m < b) (hsp : Split a b m e) (hs : Sw (m + 1) b e f) (hso : Srt (m + 1) b f) : Pq a0 b0 a m f := by
  have h2 := h.on (hs.wide (by omega) (Nat.le_refl _)) ha (by omega) hb
  have out : ∀ k, k ≤ m → f k = e k := fun k hk => hs.out (Or.inl (by omega))
  have low : ∀ k, a ≤ k → k < m → f k ≤ f m := fun k k1 k2 => by rw [out m (Nat.le_refl _), out k (by omega)]; exact hsp.1 k k1 k2
  have high : ∀ k, m + 1 ≤ k → k < b → f m ≤ f k := by
    rw [out m (Nat.le_refl _)]
    exact hs.all (fun v => e m ≤ v) (fun k k1 k2 => hsp.2 k (by omega) k2)
  refine ⟨h2.left, fun x y h1 h3 h4 h5 => ?_⟩
  by_cases c2 : b ≤ y
  · exact h2.right x y h1 h3 c2 h5
  · by_cases c : x < a
    · exact h2.left x y h1 h3 c h5
    · by_cases c3 : y = m
      · by_cases c4 : x = m
        · rw [c3, c4]; exact Int.le_refl _
        · rw [c3]; exact low x (by omega) (by omega)
      · by_cases c4 : m < x
        · exact hso.pair (by omega) h3 (by omega)
        · have l1 := high y (by omega) (by omega)
          by_cases c5 : x = m
          · rw [c5]; exact l1
          · exact Int.le_trans (low x (by omega) (by omega)) l1
theorem floor_left {a b m : Nat} {e : Fn} (h : Floor a b e) (hm : m ≤ b) : Floor a m e := fun ha k k1 k2 => h ha k k1 (by omega)
theorem floor_right {a b m : Nat} {e : Fn} (hsp : Split a b m e) : Floor (m + 1) b e := fun _ k k1 k2 => by rw [show m + 1 - 1 = m from by omega]; exact hsp.2 k (by omega) k2

set_option maxRecDepth 100000 in
set_option maxHeartbeats 16000000 in
theorem pdq_any (z : Nat) : ∀ (g n cap a0 b0 : Nat) (V : List Value) (d : Fn) (L0 : Int) (w : World) (hz : b0 - a0 ≤ z) (hab : a0 ≤ b0) (hbn : b0 ≤ n) (hn : n ≤ 1099511627776) (hL0 : 0 ≤ L0) (hL1 : L0 ≤ 100) (hfl : Floor a0 b0 d) (hr : rowD w g n V d),
    Calls Try.prog 41 #[.slice (some ⟨g, 0, none⟩) n cap, .int .i64 a0, .int .i64 b0, .int .i64 L0] w fun e w' => SoPost g n a0 b0 V d w e w' := by
  induction z using Nat.strongRecOn with
  | ind z ih =>
  intro g n cap a0 b0 V d L0 w hz hab hbn hn hL0 hL1 hfl hr
  have H0 : Hid (Sr w w g n V d) := Sr.self hr
  have HF0 : Hid (Floor a0 b0 d) := hfl
  have IH : Hid _ := ih
  clear hr hfl ih
  go_enter Try.func41, Try.ntmps41
  go_wp2
  go_loopw [1, 2, 3, 8, 9] (fun va vb vl vx vy wx => ∃ (a b : Nat) (L : Int) (x y : Bool) (e : Fn), va = .int .i64 a ∧ vb = .int .i64 b ∧ vl = .int .i64 L ∧ vx = .bool x ∧ vy = .bool y ∧ a0 ≤ a ∧ a ≤ b ∧ b ≤ b0 ∧ 0 ≤ L ∧ L ≤ 100 ∧ Hid (Sw a0 b0 d e) ∧ Hid (Pq a0 b0 a b e ∧ Floor a b e) ∧ Hid (Sr w wx g n V e)) (fun va vb _ _ _ _ => (intOf vb - intOf va).toNat)
  case atStart => exact ⟨a0, b0, L0, true, true, d, rfl, rfl, rfl, rfl, rfl, Nat.le_refl _, hab, Nat.le_refl _, hL0, hL1, Sw.refl _, ⟨pq_start _ _ _, HF0.out⟩, H0⟩
  case round =>
    clear H0 HF0
    obtain ⟨a, b, L, x, y, e, rfl, rfl, rfl, rfl, rfl, ha0, hab1, hb0, hl0, hl1, hse, hpq, hst⟩ := hrel
    obtain ⟨l, hl⟩ : ∃ l, l = b - a := ⟨_, rfl⟩
    have hbi : (b : Int) - (a : Int) = (l : Int) := by omega
    have HB : Hid (b = a + l) := by unfold Hid; omega
    by_cases h12 : l ≤ 12
    · have h12' : (l : Int) ≤ 12 := by omega
      go_wp2_with fail
      refine (ins_any g n cap a b V e wr hab1 (by omega) hn hst.out.row).mono ?_
      rintro e1 w1 ⟨d1, rfl, hs1, ho1, hr1⟩
      have HS1 : Hid (Sw a0 b0 d d1) := hse.out.trans (hs1.wide ha0 hb0)
      have HO1 : Hid (Srt a0 b0 d1) := (hpq.out.1.on hs1 ha0 hab1 hb0).fin ho1
      have HR1 : Hid (Sr w w1 g n V d1) := hst.out.on hr1
      clear hs1 ho1 hr1
      go_wp2
      go_end0
      exact ⟨d1, rfl, HS1.out, HO1.out, HR1.out⟩
    · have h12' : ¬ (l : Int) ≤ 12 := by omega
      by_cases hL : L = 0
      · have hL' : (L == 0) = true := by simp only [beq_iff_eq]; exact hL
        have HL : Hid _ := hL
        clear hL
        go_wp2_with fail
        refine (heap_any g n cap a b V e wr (by omega) (by omega) hn hst.out.row).mono ?_
        rintro e1 w1 ⟨d1, rfl, hs1, ho1, hr1⟩
        have HS1 : Hid (Sw a0 b0 d d1) := hse.out.trans (hs1.wide ha0 hb0)
        have HO1 : Hid (Srt a0 b0 d1) := (hpq.out.1.on hs1 ha0 hab1 hb0).fin ho1
        have HR1 : Hid (Sr w w1 g n V d1) := hst.out.on hr1
        clear hs1 ho1 hr1
        go_wp2
        go_end0
        exact ⟨d1, rfl, HS1.out, HO1.out, HR1.out⟩
      · have hL' : (L == 0) = false := by simp only [beq_eq_false_iff_ne]; exact hL
        have hL1' : 1 ≤ L := by omega
        clear hL
        have l13 : a + 13 ≤ b := by omega
        go_upto_if 35 with fail
        go_cut [3] from 19 to 133 (fun vl wx => ∃ (L2 : Int) (e2 : Fn), vl = .int .i64 L2 ∧ 0 ≤ L2 ∧ L2 ≤ 100 ∧ Hid (Sw a b e e2) ∧ Hid (Sr w wx g n V e2))
        case first =>
          cases x
          · go_wp2_with fail
            refine (break_any g n cap a b V e wr l13 (by omega) hn hst.out.row).mono ?_
            rintro e1 w1 ⟨d1, rfl, hs1, hr1⟩
            have HS1 : Hid (Sw a b e d1) := hs1
            have HR1 : Hid (Sr w w1 g n V d1) := hst.out.on hr1
            clear hs1 hr1
            go_wp2_with fail
            go_meet
            case rel => exact ⟨L - 1, d1, by go_num, by omega, by omega, HS1, HR1⟩
          · go_wp2_with fail
            go_meet
            case rel => exact ⟨L, e, rfl, by omega, by omega, Sw.refl _, hst⟩
        case rest =>
        obtain ⟨L2, e2, rfl, hl20, hl21, hs2, hst2⟩ := hcut
        have HS2 : Hid (Sw a0 b0 d e2) := hse.out.trans (hs2.out.wide ha0 hb0)
        have HP2 : Hid (Pq a0 b0 a b e2 ∧ Floor a b e2) := ⟨hpq.out.1.on hs2.out ha0 hab1 hb0, hpq.out.2.on hs2.out⟩
        clear hse hpq hst hs2
        go_wp2_with fail
        refine (pivot_any g n cap a b V e2 wc l13 (by omega) hn hst2.out.row).mono ?_
        rintro e1 w3 ⟨pv, h, rfl, hp1, hp2, hh, hr3⟩
        have HR3 : Hid (Sr w w3 g n V e2) := hst2.out.on hr3
        clear hr3 hst2
        go_upto_if 50 with fail
        go_cut [11, 12] from 19 to 133 (fun vp vh wx => ∃ (pv h : Nat) (e3 : Fn), vp = .int .i64 pv ∧ vh = .int .i64 h ∧ a ≤ pv ∧ pv < b ∧ h ≤ 2 ∧ Hid (Sw a b e2 e3) ∧ Hid (Sr w wx g n V e3))
        case first =>
          by_cases h2 : h = 2
          · have h2' : ((h : Int) == 2) = true := by simp only [beq_iff_eq]; omega
            clear h2
            go_wp2_with fail
            refine (rev_any g n cap a b V e2 w3 hab1 (by omega) hn HR3.out.row).mono ?_
            rintro e1 w4 ⟨d4, rfl, hs4, hr4⟩
            have HS4 : Hid (Sw a b e2 d4) := hs4
            have HR4 : Hid (Sr w w4 g n V d4) := HR3.out.on hr4
            clear hs4 hr4
            go_wp2_with fail
            go_meet
            case rel => exact ⟨b - 1 - (pv - a), 1, d4, by congr 1; omega, rfl, by omega, by omega, by omega, HS4, HR4⟩
          · have h2' : ((h : Int) == 2) = false := by simp only [beq_eq_false_iff_ne]; omega
            clear h2
            go_wp2_with fail
            go_meet
            case rel => exact ⟨pv, h, e2, rfl, rfl, hp1, hp2, hh, Sw.refl _, HR3⟩
        case rest =>
        clear hp1 hp2 hh HR3
        obtain ⟨pv, h, e3, rfl, rfl, hp1, hp2, hh, hs3, hst3⟩ := hcut
        have HS3 : Hid (Sw a0 b0 d e3) := HS2.out.trans (hs3.out.wide ha0 hb0)
        have HP3 : Hid (Pq a0 b0 a b e3 ∧ Floor a b e3) := ⟨HP2.out.1.on hs3.out ha0 hab1 hb0, HP2.out.2.on hs3.out⟩
        clear HS2 HP2 hs3
        go_upto_region 15 with fail
        go_cut [68] from 19 to 133 (fun v wx => ∃ t : Bool, v = .bool t ∧ wc = wx)
        case first =>
          by_cases h1 : h = 1
          · have h1' : ((h : Int) == 1) = true := by simp only [beq_iff_eq]; omega
            clear h1
            cases x <;> cases y
            all_goals
              go_wp2_with fail
              go_meet
              case rel => exact ⟨_, rfl, rfl⟩
          · have h1' : ((h : Int) == 1) = false := by simp only [beq_eq_false_iff_ne]; omega
            clear h1
            cases x <;> cases y
            all_goals
              go_wp2_with fail
              go_meet
              case rel => exact ⟨_, rfl, rfl⟩
        case rest =>
        obtain ⟨t, rfl, rfl⟩ := hcut
        go_upto_if 68 with fail
        go_cut [13] from 19 to 133 (fun v wx => ∃ e4 : Fn, Hid (Sw a b e3 e4) ∧ Hid (Sr w wx g n V e4))
        case first =>
          cases t
          · go_wp2_with fail
            go_meet
            case rel => exact ⟨e3, Sw.refl _, hst3⟩
          · go_wp2_with fail
            refine (partins_any g n cap a b V e3 _ (by omega) (by omega) hn HP3.out.2 hst3.out.row).mono ?_
            rintro e1 w5 ⟨t5, d5, rfl, hs5, ho5, hr5⟩
            have HS5 : Hid (Sw a b e3 d5) := hs5
            have HO5 : Hid (t5 = true → Srt a b d5) := ho5
            have HR5 : Hid (Sr w w5 g n V d5) := hst3.out.on hr5
            clear hs5 ho5 hr5
            cases t5
            · go_wp2_with fail
              go_meet
              case rel => exact ⟨d5, HS5, HR5⟩
            · have HF5 : Hid (SoPost g n a0 b0 V d w (.returned (.tuple #[])) w5) := ⟨d5, rfl, HS3.out.trans (HS5.out.wide ha0 hb0), (HP3.out.1.on HS5.out ha0 hab1 hb0).fin (HO5.out rfl), HR5.out⟩
              go_wp2_with fail
              go_end0
              exact HF5.out
        case rest =>
        obtain ⟨e4, hs4, hst4⟩ := hcut
        have HS4 : Hid (Sw a0 b0 d e4) := HS3.out.trans (hs4.out.wide ha0 hb0)
        have HP4 : Hid (Pq a0 b0 a b e4 ∧ Floor a b e4) := ⟨HP3.out.1.on hs4.out ha0 hab1 hb0, HP3.out.2.on hs4.out⟩
        clear HS3 HP3 hs4 hst3
        obtain ⟨q, hq⟩ : ∃ q, q = decide (0 < a ∧ ¬ e4 (a - 1) < e4 pv) := ⟨_, rfl⟩
        have HQ : Hid _ := hq
        clear hq
        go_upto_region 17 with fail
        go_cut [87] from 19 to 133 (fun v wx => v = .bool q ∧ Hid (Sr w wx g n V e4))
        case first =>
          by_cases ha : 0 < a
          · have ha1 : decide ((0 : Int) < (a : Int)) = true := by simp only [decide_eq_true_eq]; omega
            have ha2 : decide (0 < a) = true := by simp only [decide_eq_true_eq]; omega
            have ci := rowD_at hst4.out.row (a - 1) (by omega)
            have cj := rowD_at hst4.out.row pv (by omega)
            obtain ⟨u, hu⟩ : ∃ u, e4 (a - 1) = u := ⟨_, rfl⟩
            obtain ⟨v, hv⟩ : ∃ v, e4 pv = v := ⟨_, rfl⟩
            rw [hu] at ci
            rw [hv] at cj
            have k1 : (pv : Int) < (n : Int) := by omega
            have k2 : ((a : Int) - 1).toNat = a - 1 := by omega
            have k3 : (0 : Int) ≤ (a : Int) - 1 := by omega
            have k4 : (1 : Int) ≤ (a : Int) := by omega
            have k5 : (a : Int) ≤ (n : Int) := by omega
            have k6 : (a : Int) - 1 < (n : Int) := by omega
            have k8 : a ≤ n := by omega
            have HL : Hid ((!q) = decide (u < v)) := by
              unfold Hid; rw [HQ.out, hu, hv]
              by_cases h : u < v
              · simp [h]
              · simp [h, ha]
            clear hu hv
            obtain ⟨t2, ht2⟩ : ∃ t2, t2 = !q := ⟨_, rfl⟩
            rw [← ht2] at HL
            have e2' : (!t2) = q := by rw [ht2]; simp
            have HE2 : Hid _ := e2'
            clear ht2 e2' HQ
            go_wp2
            go_quiet ((go_at_call 49; first | with_reducible exact less_q0 u v HL.out | with_reducible exact less_q u v HL.out))
            go_wp2_with fail
            go_meet
            case rel => exact ⟨by rw [← HE2.out], hst4.out.drewN _⟩
          · have ha1 : decide ((0 : Int) < (a : Int)) = false := by simp only [decide_eq_false_iff_not]; omega
            have ha2 : decide (0 < a) = false := by simp only [decide_eq_false_iff_not]; omega
            have et : q = false := by rw [HQ.out]; simp [ha]
            subst et
            go_wp2
            go_quiet (fail)
            go_wp2_with fail
            go_meet
            case rel => exact ⟨rfl, hst4.out.drewN _⟩
        case rest =>
        clear hst4
        obtain ⟨rfl, hst4⟩ := hcut
        cases q
        · -- partition
          clear HQ
          go_wp2_with fail
          refine (part_any g n cap a b pv V e4 _ (by omega) (by omega) hn hp1 hp2 hst4.out.row).mono ?_
          rintro e1 w5 ⟨m, t5, d5, rfl, hm1, hm2, hs5, hsp5, hr5⟩
          have HS5 : Hid (Sw a0 b0 d d5) := HS4.out.trans (hs5.wide ha0 hb0)
          have HP5 : Hid (Pq a0 b0 a b d5 ∧ Floor a b d5) := ⟨HP4.out.1.on hs5 ha0 hab1 hb0, HP4.out.2.on hs5⟩
          have HSP : Hid (Split a b m d5) := hsp5
          have HR5 : Hid (Sr w w5 g n V d5) := hst4.out.on hr5
          clear hs5 hsp5 hr5 HS4 HP4 hst4
          by_cases hlr : (m : Int) - (a : Int) < (b : Int) - (m : Int)
          · go_wp2_with fail
            have cc := IH.out (m - a) (by omega) g n cap a m V d5 L2 w5 (Nat.le_refl _) hm1 (by omega) hn hl20 hl21 (floor_left HP5.out.2 (by omega)) HR5.out.row
            refine cc.mono ?_
            clear cc
            rintro e1 w6 ⟨d6, rfl, hs6, ho6, hr6⟩
            have HS6 : Hid (Sw a0 b0 d d6) := HS5.out.trans (hs6.wide ha0 (by omega))
            have HP6 : Hid (Pq a0 b0 (m + 1) b d6 ∧ Floor (m + 1) b d6) := HP5.out.1.left_ ha0 hb0 hm1 hm2 HSP.out hs6 ho6
            have HR6 : Hid (Sr w w6 g n V d6) := HR5.out.on hr6
            clear hs6 ho6 hr6
            go_wp2
            go_roundw
            case rel => exact ⟨m + 1, b, L2, _, t5, d6, by go_num, rfl, rfl, rfl, rfl, by omega, by omega, hb0, hl20, hl21, HS6, HP6, HR6⟩
            case measure => simp [intOf]; omega
          · go_wp2_with fail
            have cc := IH.out (b - (m + 1)) (by omega) g n cap (m + 1) b V d5 L2 w5 (Nat.le_refl _) (by omega) (by omega) hn hl20 hl21 (floor_right HSP.out) HR5.out.row
            rw [show ((m + 1 : Nat) : Int) = (m : Int) + 1 from by omega] at cc
            refine cc.mono ?_
            clear cc
            rintro e1 w6 ⟨d6, rfl, hs6, ho6, hr6⟩
            have HS6 : Hid (Sw a0 b0 d d6) := HS5.out.trans (hs6.wide (by omega) hb0)
            have HP6 : Hid (Pq a0 b0 a m d6 ∧ Floor a m d6) := ⟨HP5.out.1.right_ ha0 hb0 hm1 hm2 HSP.out hs6 ho6, floor_left (HP5.out.2.on (hs6.wide (by omega) (Nat.le_refl _))) (by omega)⟩
            have HR6 : Hid (Sr w w6 g n V d6) := HR5.out.on hr6
            clear hs6 ho6 hr6
            go_wp2
            go_roundw
            case rel => exact ⟨a, m, L2, _, t5, d6, rfl, rfl, rfl, rfl, rfl, ha0, hm1, by omega, hl20, hl21, HS6, HP6, HR6⟩
            case measure => simp [intOf]; omega
        · -- partitionEqual
          have hq2 : 0 < a ∧ ¬ e4 (a - 1) < e4 pv := by have := HQ.out; simpa using this.symm
          clear HQ
          go_wp2_with fail
          refine (parteq_any g n cap a b pv V e4 _ (by omega) (by omega) hn hp1 hp2 hst4.out.row).mono ?_
          rintro e1 w5 ⟨i, d5, rfl, hi1, hi2, hs5, hpe, hr5⟩
          have HS5 : Hid (Sw a0 b0 d d5) := HS4.out.trans (hs5.wide ha0 hb0)
          have HP5 : Hid (Pq a0 b0 i b d5 ∧ Floor i b d5) := by
            have p1 := HP4.out.1.on hs5 ha0 hab1 hb0
            have f1 := HP4.out.2 hq2.1
            have lo : ∀ k, a ≤ k → k < b → e4 pv ≤ e4 k := fun k k1 k2 => by have := f1 k k1 k2; have := hq2.2; omega
            exact p1.eq_ ha0 hb0 hi1 hi2 hpe (hs5.all (fun v => e4 pv ≤ v) lo)
          have HR5 : Hid (Sr w w5 g n V d5) := hst4.out.on hr5
          clear hs5 hpe hr5 hq2
          go_wp2
          go_roundw
          case rel => exact ⟨i, b, L2, x, y, d5, rfl, rfl, rfl, rfl, rfl, by omega, hi2, hb0, hl20, hl21, HS5, HP5, HR5⟩
          case measure => simp [intOf]; omega

/-! ### slices.Sort -/
theorem bl_small (x : Nat) (h : x ≤ 1099511627776) : Lib.bitLen x ≤ 42 := by
  by_cases h0 : x = 0
  · subst h0; decide
  · have hb := bl_le x h0 (by omega)
    by_cases hk : Lib.bitLen x ≤ 42
    · exact hk
    · have : 2 ^ 43 ≤ 2 ^ Lib.bitLen x := Nat.pow_le_pow_right (by omega) (by omega)
      omega
theorem sort_any (g n cap : Nat) (V : List Value) (d : Fn) (w : World) (hn : n ≤ 1099511627776) (hr : rowD w g n V d) :
    Calls Try.prog 38 #[.slice (some ⟨g, 0, none⟩) n cap] w fun e w' => SoPost g n 0 n V d w e w' := by
  have HR : Hid (rowD w g n V d) := hr
  clear hr
  have hnw : IntKind.u64.wrap (n : Int) = (n : Int) := by rw [IntKind.wrap_u64]; omega
  go_enter Try.func38, Try.ntmps38
  go_wp2_with fail
  refine (Try.bits_Len (n : Int) w (by omega) (by omega)).mono ?_
  rintro e w' ⟨rfl, rfl⟩
  have hb := bl_small n hn
  rw [Int.toNat_natCast]
  generalize Lib.bitLen n = k at hb ⊢
  go_wp2_with fail
  refine (pdq_any n g n cap 0 n V d (k : Int) w' (by omega) (by omega) (by omega) hn (by omega) (by omega) (fun h => by omega) HR.out).mono ?_
  rintro e w2 ⟨d2, rfl, h1, h2, h3⟩
  have H : Hid _ := And.intro h1 (And.intro h2 h3)
  clear h1 h2 h3
  go_wp2
  go_end0
  exact ⟨d2, rfl, H.out⟩
end Go.Proofs.Qxb6603449a.SO
