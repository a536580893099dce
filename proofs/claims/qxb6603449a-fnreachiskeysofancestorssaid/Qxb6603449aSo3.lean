import Derived.Test.Qxb6603449aSo2
namespace Go.Proofs.Qxb6603449a.SO
open Go.RowKit
set_option linter.unusedVariables false
set_option linter.unusedSimpArgs false

/-! ### Heaps -/
def Kid (i c : Nat) : Prop := c = 2 * i + 1 ∨ c = 2 * i + 2
def Hp (d : Fn) (f lo hi : Nat) : Prop := ∀ i c, lo ≤ i → Kid i c → c < hi → d (f + c) ≤ d (f + i)
structure HpX (d : Fn) (f lo hi r : Nat) : Prop where
  ok : ∀ i c, lo ≤ i → i ≠ r → Kid i c → c < hi → d (f + c) ≤ d (f + i)
  over : ∀ i c, lo ≤ i → Kid i r → Kid r c → c < hi → d (f + c) ≤ d (f + i)
theorem hpx_start {d : Fn} {f lo hi : Nat} (h : Hp d f (lo + 1) hi) : HpX d f lo hi lo :=
  ⟨fun i c h1 h2 h3 h4 => h i c (by omega) h3 h4, fun i c h1 h2 h3 h4 => by unfold Kid at h2; omega⟩
theorem HpX.fin {d : Fn} {f lo hi r : Nat} (h : HpX d f lo hi r) (hk : ∀ c, Kid r c → c < hi → d (f + c) ≤ d (f + r)) : Hp d f lo hi := fun i c h1 h2 h3 => by
  by_cases e : i = r
  · rw [e] at h2 ⊢; exact hk c h2 h3
  · exact h.ok i c h1 e h2 h3
theorem HpX.down {d : Fn} {f lo hi r ch : Nat} (h : HpX d f lo hi r) (hlo : lo ≤ r) (hc : Kid r ch) (hch : ch < hi) (hlt : d (f + r) < d (f + ch)) (hmax : ∀ c, Kid r c → c < hi → d (f + c) ≤ d (f + ch)) : HpX (sw d (f + r) (f + ch)) f lo hi ch := by
  unfold Kid at hc
  refine ⟨fun i c h1 h2 h3 h4 => ?_, fun i c h1 h2 h3 h4 => ?_⟩
  · by_cases e1 : i = r
    · rw [e1, sw_l]
      by_cases e2 : c = ch
      · rw [e2, sw_r]; omega
      · rw [sw_out (by unfold Kid at h3; omega) (by omega)]
        exact hmax c (by rw [← e1]; exact h3) h4
    · rw [sw_out (k := f + i) (by omega) (by omega)]
      by_cases e2 : c = r
      · rw [e2, sw_l]
        exact h.over i ch h1 (by rw [← e2]; exact h3) hc hch
      · have e3 : c ≠ ch := by unfold Kid at h3; omega
        rw [sw_out (k := f + c) (by omega) (by omega)]
        exact h.ok i c h1 e1 h3 h4
  · have e1 : i = r := by unfold Kid at h2; omega
    have e2 : c ≠ r ∧ c ≠ ch := by unfold Kid at h3; omega
    rw [e1, sw_l, sw_out (k := f + c) (by omega) (by omega)]
    exact h.ok ch c (by omega) (by omega) h3 h4
theorem Hp.top {d : Fn} {f hi : Nat} (h : Hp d f 0 hi) (i : Nat) (hi' : i < hi) : d (f + i) ≤ d (f + 0) := by
  induction i using Nat.strongRecOn with
  | ind i ih =>
    by_cases e : i = 0
    · rw [e]; exact Int.le_refl _
    · have k : Kid ((i - 1) / 2) i := by unfold Kid; omega
      exact Int.le_trans (h _ i (Nat.zero_le _) k hi') (ih ((i - 1) / 2) (by omega) (by omega))
theorem Hp.less {d : Fn} {f lo hi hi' : Nat} (h : Hp d f lo hi) (hh : hi' ≤ hi) : Hp d f lo hi' := fun i c h1 h2 h3 => h i c h1 h2 (by omega)

theorem less_q (x y : Int) {t : Bool} (ht : t = decide (x < y)) {wr : World} {q k : Nat} : Calls Try.prog 49 #[.int .i32 x, .int .i32 y] (wr.drewN (q + k)) fun e w'' => e = .returned (.bool t) ∧ ∃ n, w'' = wr.drewN (q + n) :=
  (less_any x y t _ ht).mono (fun _ _ h => ⟨h.1, k, h.2⟩)
theorem less_q0 (x y : Int) {t : Bool} (ht : t = decide (x < y)) {wr : World} {k : Nat} : Calls Try.prog 49 #[.int .i32 x, .int .i32 y] (wr.drewN k) fun e w'' => e = .returned (.bool t) ∧ ∃ n, w'' = wr.drewN n :=
  (less_any x y t _ ht).mono (fun _ _ h => ⟨h.1, k, h.2⟩)
theorem Sr.sw' {w wr : World} {g n : Nat} {V : List Value} {d : Fn} (h : Sr w wr g n V d) (m i j : Nat) (x y : Int) (hx : d j = x) (hy : d i = y) (hi : i < n) (hj : j < n) :
    Sr w (((wr.drewN m).setCell ⟨g, i, none⟩ (.int .i32 x)).setCell ⟨g, j, none⟩ (.int .i32 y)) g n V (sw d i j) := by
  have hs := (h.drewN m).swap i j 0 hi hj
  rw [hx, hy] at hs
  exact hs
def SdPost (g n f lo hi : Nat) (V : List Value) (d : Fn) (w : World) (e : Ending) (w' : World) : Prop := ∃ d', e = .returned (.tuple #[]) ∧ Sw (f + lo) (f + hi) d d' ∧ Hp d' f lo hi ∧ Sr w w' g n V d'
set_option maxHeartbeats 8000000 in
theorem sift_any (g n cap f lo hi : Nat) (V : List Value) (d : Fn) (w : World) (hl : lo ≤ hi) (hfn : f + hi ≤ n) (hn : n ≤ 1099511627776) (hr : rowD w g n V d) (hp : Hp d f (lo + 1) hi) :
    Calls Try.prog 54 #[.slice (some ⟨g, 0, none⟩) n cap, .int .i64 lo, .int .i64 hi, .int .i64 f] w fun e w' => SdPost g n f lo hi V d w e w' := by
  have H0 : Hid (Sr w w g n V d) := Sr.self hr
  have HP0 : Hid (HpX d f lo hi lo) := hpx_start hp
  clear hr hp
  go_enter Try.func54, Try.ntmps54
  go_wp2
  go_loopw [8] (fun vr wx => ∃ (r : Nat) (e : Fn), vr = .int .i64 r ∧ lo ≤ r ∧ r ≤ hi ∧ Hid (Sw (f + lo) (f + hi) d e) ∧ Hid (HpX e f lo hi r) ∧ Hid (Sr w wx g n V e)) (fun vr _ => hi - (intOf vr).toNat)
  case atStart => exact ⟨lo, d, rfl, Nat.le_refl _, hl, Sw.refl _, HP0, H0⟩
  case round =>
    clear H0 HP0
    obtain ⟨r, e, rfl, hr1, hr2, hse, hpx, hst⟩ := hrel
    obtain ⟨c, hc⟩ : ∃ c : Nat, c = 2 * r + 1 := ⟨_, rfl⟩
    have hci : 2 * (r : Int) + 1 = (c : Int) := by omega
    have HC : Hid _ := hc
    have hrc : r < c := by omega
    clear hc
    go_upto_region 2 with fail
    clear hci
    by_cases hch : hi ≤ c
    · have hch' : (hi : Int) ≤ (c : Int) := by omega
      have HF : Hid (Hp e f lo hi) := hpx.out.fin (fun k hk hk2 => by have := HC.out; unfold Kid at hk; omega)
      go_wp2
      go_end0
      exact ⟨e, rfl, hse.out, HF.out, hst.out⟩
    · have hch' : ¬ (hi : Int) ≤ (c : Int) := by omega
      have c1 := rowD_at hst.out.row (f + c) (by omega)
      have cr := rowD_at hst.out.row (f + r) (by omega)
      have fc := rowD_fr hst.out.row (f + c)
      have fr := rowD_fr hst.out.row (f + r)
      obtain ⟨x, hx⟩ : ∃ x, e (f + c) = x := ⟨_, rfl⟩
      obtain ⟨y, hy⟩ : ∃ y, e (f + r) = y := ⟨_, rfl⟩
      rw [hx] at c1
      rw [hy] at cr
      have HX : Hid _ := hx
      have HY : Hid _ := hy
      clear hx hy
      have k1 : (f : Int) + (c : Int) < (n : Int) := by omega
      have k2 : f + c < n := by omega
      have k3 : (f : Int) + (r : Int) < (n : Int) := by omega
      have k4 : f + r < n := by omega
      have k5 : ((f : Int) + (c : Int)).toNat = f + c := by omega
      have k6 : ((f : Int) + (r : Int)).toNat = f + r := by omega
      have k10 : (0 : Int) ≤ (f : Int) + (r : Int) := by omega
      have k11 : ¬ (f : Int) + (r : Int) < 0 := by omega
      have k12 : (0 : Int) ≤ (f : Int) + (c : Int) := by omega
      have k13 : ¬ (f : Int) + (c : Int) < 0 := by omega
      have k14 : (0 : Int) ≤ (f : Int) + (c : Int) + 1 := by omega
      have k15 : ¬ (f : Int) + (c : Int) + 1 < 0 := by omega
      have k7 : IntKind.i64.wrap ((f : Int) + (r : Int)) = (f : Int) + (r : Int) := by rw [IntKind.wrap_i64]; omega
      have k8 : IntKind.i64.wrap ((f : Int) + (c : Int)) = (f : Int) + (c : Int) := by rw [IntKind.wrap_i64]; omega
      have k9 : IntKind.i64.wrap ((f : Int) + ((c : Int) + 1)) = (f : Int) + (c : Int) + 1 := by rw [IntKind.wrap_i64]; omega
      by_cases hc2 : c + 1 < hi ∧ e (f + c) < e (f + c + 1)
      · -- the right child
        obtain ⟨hc2a, hc2b⟩ := hc2
        have t1 : decide ((c : Int) + 1 < (hi : Int)) = true := by simp only [decide_eq_true_eq]; omega
        have t1' : decide (c + 1 < hi) = true := by simp only [decide_eq_true_eq]; omega
        have c2 := rowD_at hst.out.row (f + c + 1) (by omega)
        have f2 := rowD_fr hst.out.row (f + c + 1)
        obtain ⟨z, hz⟩ : ∃ z, e (f + c + 1) = z := ⟨_, rfl⟩
        rw [hz] at c2 hc2b
        rw [HX.out] at hc2b
        have HZ : Hid _ := hz
        have HXZ : Hid (true = decide (x < z)) := by unfold Hid; simp [hc2b]
        have j1 : (f : Int) + (c : Int) + 1 < (n : Int) := by omega
        have j2 : f + c + 1 < n := by omega
        have j3 : ((f : Int) + (c : Int) + 1).toNat = f + c + 1 := by omega
        have j4 : ((f : Int) + ((c : Int) + 1)).toNat = f + c + 1 := by omega
        have j5 : (f : Int) + ((c : Int) + 1) < (n : Int) := by omega
        obtain ⟨t, ht⟩ : ∃ t, t = decide (y < z) := ⟨_, rfl⟩
        have HT : Hid _ := ht
        have HLT : Hid _ := hc2b
        clear hz ht hc2b
        cases t
        · have HF : Hid (Hp e f lo hi) := hpx.out.fin (fun k hk hk2 => by
            have hyz : ¬ y < z := by have := HT.out; simpa using this.symm
            have h1 := HC.out; have h2 := HLT.out; have h3 := HX.out; have h4 := HY.out; have h5 := HZ.out
            unfold Kid at hk
            rcases hk with hk | hk
            · rw [show f + k = f + c from by omega, h3, h4]; omega
            · rw [show f + k = f + c + 1 from by omega, h5, h4]; omega)
          go_wp2
          go_quiet ((go_at_call 49; first | with_reducible exact less_q0 x z HXZ.out | with_reducible exact less_q x z HXZ.out | with_reducible exact less_q y z HT.out | with_reducible exact less_q y x HT.out))
          go_wp2
          go_quiet ((go_at_call 49; first | with_reducible exact less_q0 x z HXZ.out | with_reducible exact less_q x z HXZ.out | with_reducible exact less_q y z HT.out | with_reducible exact less_q y x HT.out))
          go_wp2
          go_end0
          exact ⟨e, rfl, hse.out, HF.out, (hst.out.drewN _).drewN _⟩
        · have hyz : y < z := by have := HT.out; simpa using this.symm
          have HD : Hid (HpX (sw e (f + r) (f + (c + 1))) f lo hi (c + 1)) := hpx.out.down hr1 (by have := HC.out; unfold Kid; omega) hc2a (by
              rw [HY.out, ← Nat.add_assoc, HZ.out]; exact hyz) (fun k hk hk2 => by
            have h1 := HC.out; have h2 := HLT.out; have h3 := HX.out; have h5 := HZ.out
            unfold Kid at hk
            rw [← Nat.add_assoc, h5]
            rcases hk with hk | hk
            · rw [show f + k = f + c from by omega, h3]; omega
            · rw [show f + k = f + c + 1 from by omega, h5]; omega)
          rw [← Nat.add_assoc] at HD
          have HS : Hid (Sw (f + lo) (f + hi) d (sw e (f + r) (f + c + 1))) := Sw.step _ _ hse.out (by omega) (by omega) (by omega) (by omega)
          have n1 : ¬ f + r = f + c + 1 := by omega
          have n2 : ¬ f + c + 1 = f + r := by omega
          clear hyz
          go_wp2
          go_quiet ((go_at_call 49; first | with_reducible exact less_q0 x z HXZ.out | with_reducible exact less_q x z HXZ.out | with_reducible exact less_q y z HT.out | with_reducible exact less_q y x HT.out))
          go_wp2
          go_quiet ((go_at_call 49; first | with_reducible exact less_q0 x z HXZ.out | with_reducible exact less_q x z HXZ.out | with_reducible exact less_q y z HT.out | with_reducible exact less_q y x HT.out))
          go_wp2
          go_region
          go_wp2
          go_roundw
          case rel => exact ⟨c + 1, sw e (f + r) (f + c + 1), by go_num, by omega, by omega, HS, HD, hst.out.sw' _ _ _ _ _ HZ.out HY.out (by omega) (by omega)⟩
          case measure => simp [intOf]; omega
      · -- the left child
        obtain ⟨t, ht⟩ : ∃ t, t = decide (y < x) := ⟨_, rfl⟩
        have HT : Hid _ := ht
        have HMX : Hid (∀ k, Kid r k → k < hi → e (f + k) ≤ e (f + c)) := fun k hk hk2 => by
          have h1 := HC.out
          unfold Kid at hk
          rcases hk with hk | hk
          · rw [show f + k = f + c from by omega]; exact Int.le_refl _
          · rw [show f + k = f + c + 1 from by omega]
            by_cases h : e (f + c) < e (f + c + 1)
            · exact absurd ⟨by omega, h⟩ hc2
            · omega
        have HF : Hid (t = false → Hp e f lo hi) := fun h => hpx.out.fin (fun k hk hk2 => by
          have h1 := HMX.out k hk hk2
          have hyx : ¬ y < x := by have := HT.out; rw [h] at this; simpa using this.symm
          have h3 := HX.out; have h4 := HY.out
          rw [h4]; rw [h3] at h1; omega)
        have HD : Hid (t = true → HpX (sw e (f + r) (f + c)) f lo hi c) := fun h => hpx.out.down hr1 (by have := HC.out; unfold Kid; omega) (by omega) (by
          rw [HY.out, HX.out]; have := HT.out; rw [h] at this; simpa using this.symm) HMX.out
        have HS : Hid (Sw (f + lo) (f + hi) d (sw e (f + r) (f + c))) := Sw.step _ _ hse.out (by omega) (by omega) (by omega) (by omega)
        have n1 : ¬ f + r = f + c := by omega
        have n2 : ¬ f + c = f + r := by omega
        clear ht
        by_cases hc3 : c + 1 < hi
        · have t1 : decide ((c : Int) + 1 < (hi : Int)) = true := by simp only [decide_eq_true_eq]; omega
          have t1' : decide (c + 1 < hi) = true := by simp only [decide_eq_true_eq]; omega
          have c2 := rowD_at hst.out.row (f + c + 1) (by omega)
          obtain ⟨z, hz⟩ : ∃ z, e (f + c + 1) = z := ⟨_, rfl⟩
          have HXZ : Hid (false = decide (x < z)) := by
            unfold Hid
            by_cases h : x < z
            · exact absurd ⟨hc3, by rw [hz, HX.out]; exact h⟩ hc2
            · simp [h]
          rw [hz] at c2
          have HZ : Hid _ := hz
          have j1 : (f : Int) + (c : Int) + 1 < (n : Int) := by omega
          have j2 : f + c + 1 < n := by omega
          have j3 : ((f : Int) + (c : Int) + 1).toNat = f + c + 1 := by omega
          clear hz hc2
          cases t
          · go_wp2
            go_quiet ((go_at_call 49; first | with_reducible exact less_q0 x z HXZ.out | with_reducible exact less_q x z HXZ.out | with_reducible exact less_q y z HT.out | with_reducible exact less_q y x HT.out))
            go_wp2
            go_quiet ((go_at_call 49; first | with_reducible exact less_q0 x z HXZ.out | with_reducible exact less_q x z HXZ.out | with_reducible exact less_q y z HT.out | with_reducible exact less_q y x HT.out))
            go_wp2
            go_end0
            exact ⟨e, rfl, hse.out, HF.out (by trivial), (hst.out.drewN _).drewN _⟩
          · go_wp2
            go_quiet ((go_at_call 49; first | with_reducible exact less_q0 x z HXZ.out | with_reducible exact less_q x z HXZ.out | with_reducible exact less_q y z HT.out | with_reducible exact less_q y x HT.out))
            go_wp2
            go_quiet ((go_at_call 49; first | with_reducible exact less_q0 x z HXZ.out | with_reducible exact less_q x z HXZ.out | with_reducible exact less_q y z HT.out | with_reducible exact less_q y x HT.out))
            go_wp2
            go_region
            go_wp2
            go_roundw
            case rel => exact ⟨c, sw e (f + r) (f + c), by go_num, by omega, by omega, HS, HD.out (by trivial), hst.out.sw' _ _ _ _ _ HX.out HY.out (by omega) (by omega)⟩
            case measure => simp [intOf]; omega
        · have t1 : decide ((c : Int) + 1 < (hi : Int)) = false := by simp only [decide_eq_false_iff_not]; omega
          have t1' : decide (c + 1 < hi) = false := by simp only [decide_eq_false_iff_not]; omega
          clear hc2
          cases t
          · go_wp2
            go_quiet (fail)
            go_wp2
            go_quiet ((go_at_call 49; with_reducible exact less_q y x HT.out))
            go_wp2
            go_end0
            exact ⟨e, rfl, hse.out, HF.out (by trivial), (hst.out.drewN _).drewN _⟩
          · go_wp2
            go_quiet (fail)
            go_wp2
            go_quiet ((go_at_call 49; with_reducible exact less_q y x HT.out))
            go_wp2
            go_region
            go_wp2
            go_roundw
            case rel => exact ⟨c, sw e (f + r) (f + c), by go_num, by omega, by omega, HS, HD.out (by trivial), hst.out.sw' _ _ _ _ _ HX.out HY.out (by omega) (by omega)⟩
            case measure => simp [intOf]; omega
end Go.Proofs.Qxb6603449a.SO
