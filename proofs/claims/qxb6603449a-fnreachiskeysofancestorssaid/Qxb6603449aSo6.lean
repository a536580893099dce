import Derived.Test.Qxb6603449aSo5
import Derived.Test.Qxb6603449aLen
import Derived.Laws.BitsAllLaws
namespace Go.Proofs.Qxb6603449a.SO
open Go.RowKit
set_option linter.unusedVariables false
set_option linter.unusedSimpArgs false

theorem bl_le (x : Nat) (h0 : x ≠ 0) (h : x < 2 ^ 64) : 2 ^ Lib.bitLen x ≤ 2 * x := by
  induction x using Nat.strongRecOn with
  | ind x ih =>
    rw [Lib.bitLen_half x h0 h]
    by_cases h1 : x / 2 = 0
    · rw [h1, show Lib.bitLen 0 = 0 from rfl]; omega
    · have := ih (x / 2) (by omega) h1 (by omega)
      rw [Nat.pow_add]; omega
/-! ### nextPowerOfTwo, xorshift.Next -/
def NpPost (l : Nat) (w : World) (e : Ending) (w' : World) : Prop := ∃ M : Nat, e = .returned (.int .u64 (M : Int)) ∧ 1 ≤ M ∧ M ≤ 2 * l ∧ w = w'
theorem next_any (l : Nat) (w : World) (h0 : 1 ≤ l) (h1 : l ≤ 1099511627776) : Calls Try.prog 55 #[.int .i64 l] w fun e w' => NpPost l w e w' := by
  have hb := bl_le l (by omega) (by omega)
  have hc := Try.bits_Len (l : Int) w (by omega) (by omega)
  rw [Int.toNat_natCast] at hc
  generalize Lib.bitLen l = k at hb hc
  have hk : k < 42 := by
    by_cases h : k < 42
    · exact h
    · have : 2 ^ 42 ≤ 2 ^ k := Nat.pow_le_pow_right (by omega) (by omega)
      omega
  have hp : 1 ≤ 2 ^ k := Nat.one_le_two_pow
  have hw : IntKind.u64.wrap (2 ^ k : Int) = (2 ^ k : Int) := by
    have e : ((2 ^ k : Nat) : Int) = (2 ^ k : Int) := by simp
    rw [← e, IntKind.wrap_u64]; omega
  have HB : Hid _ := hb
  have HP : Hid _ := hp
  have hlw : IntKind.u64.wrap (l : Int) = (l : Int) := by rw [IntKind.wrap_u64]; omega
  clear hb hp
  go_enter Try.func55, Try.ntmps55
  go_wp2_with fail
  refine hc.mono ?_
  rintro e w' ⟨rfl, rfl⟩
  clear hc
  go_wp2
  go_ret
  exact ⟨2 ^ k, by simp, HP.out, HB.out, rfl⟩
abbrev rngAt (w : World) (p : Nat) (r : Nat) : Prop := w.heap[p]? = some (.cells #[.int .u64 (r : Int)] 102 (0, 0))
theorem xr (a b : Nat) (ha : a < 18446744073709551616) (hb : b < 18446744073709551616) : ∃ c : Nat, bits .xor .u64 (a : Int) (b : Int) = (c : Int) ∧ c < 18446744073709551616 :=
  ⟨a ^^^ b, u64_xor_nat a b ha hb, Nat.xor_lt_two_pow (n := 64) ha hb⟩
theorem xrI (a : Nat) (b : Int) (ha : a < 18446744073709551616) (h0 : 0 ≤ b) (hb : b < 18446744073709551616) : ∃ c : Nat, bits .xor .u64 (a : Int) b = (c : Int) ∧ c < 18446744073709551616 := by
  obtain ⟨n, rfl⟩ : ∃ n : Nat, b = (n : Int) := ⟨b.toNat, by omega⟩
  exact xr a n ha (by omega)
theorem rng_set {w : World} {p r : Nat} (h : rngAt w p r) (x : Nat) : rngAt (w.setCell ⟨p, 0, none⟩ (.int .u64 (x : Int))) p x := by
  unfold rngAt; rw [heap_setCell_same w p _ _ 102 _ h]; rfl
def XsPost (p : Nat) (w : World) (e : Ending) (w' : World) : Prop := ∃ r : Nat, e = .returned (.int .u64 (r : Int)) ∧ r < 18446744073709551616 ∧ rngAt w' p r ∧ w.grownBy w' (some p)
theorem xs_any (p r : Nat) (w : World) (hr : r < 18446744073709551616) (h : rngAt w p r) : Calls Try.prog 56 #[.pointer (some ⟨p, 0, none⟩)] w fun e w' => XsPost p w e w' := by
  have c1 : w.cell? ⟨p, 0, none⟩ = some (.int .u64 (r : Int)) := by rw [cell_of_row w p _ _ 102 (0, 0) h]; rfl
  have f1 : w.frozen? ⟨p, 0, none⟩ = false := frozen_of_row w p 0 _ 102 h
  have H : Hid _ := h
  clear h
  obtain ⟨r1, h1, b1⟩ := xrI r (IntKind.u64.wrap ((r : Int) * 8192)) hr (by rw [IntKind.wrap_u64]; omega) (by rw [IntKind.wrap_u64]; omega)
  obtain ⟨r2, h2, b2⟩ := xrI r1 ((r1 : Int) / 128) b1 (by omega) (by omega)
  obtain ⟨r3, h3, b3⟩ := xrI r2 (IntKind.u64.wrap ((r2 : Int) * 131072)) b2 (by rw [IntKind.wrap_u64]; omega) (by rw [IntKind.wrap_u64]; omega)
  go_enter Try.func56, Try.ntmps56
  go_wp2
  go_region
  go_wp2
  go_region
  go_wp2
  go_region
  have H3 := rng_set (rng_set (rng_set H.out r1) r2) r3
  have q3 : (((w.setCell ⟨p, 0, none⟩ (.int .u64 (r1 : Int))).setCell ⟨p, 0, none⟩ (.int .u64 (r2 : Int))).setCell ⟨p, 0, none⟩ (.int .u64 (r3 : Int))).cell? ⟨p, 0, none⟩ = some (.int .u64 (r3 : Int)) := by rw [cell_of_row _ p _ _ 102 (0, 0) H3]; rfl
  have HH3 : Hid _ := H3
  clear H3
  go_wp2
  go_ret
  exact ⟨r3, rfl, b3, HH3.out, grown_drewN (grown_set (grown_set (grown_set (grown_refl _ _) _ _) _ _) _ _) 3⟩

/-! ### breakPatternsOrdered -/
structure Bp (w wr : World) (g n p : Nat) (V : List Value) (d : Fn) (r : Nat) : Prop where
  row : rowD wr g n V d
  rng : rngAt wr p r
  ne : g ≠ p
  new : w.heap.size ≤ p
  lt : r < 18446744073709551616
  fr : w.grownBy wr (some g)
theorem Bp.next {w wr wq : World} {g n p r t : Nat} {V : List Value} {d : Fn} (h : Bp w wr g n p V d r) (hr : rngAt wq p t) (ht : t < 18446744073709551616) (hg : wr.grownBy wq (some p)) : Bp w wq g n p V d t := by
  have l1 := rowD_lt h.row
  refine ⟨(hg.block g l1 (by simp; exact h.ne)).trans h.row, hr, h.ne, h.new, ht, ⟨hg.os.trans h.fr.os, hg.tape.trans h.fr.tape, hg.output.trans h.fr.output, Nat.le_trans h.fr.size hg.size, fun k hk hne => ?_⟩⟩
  have := h.new; have := h.fr.size
  exact (hg.block k (by omega) (by simp; omega)).trans (h.fr.block k hk hne)
theorem Bp.sw' {w wr : World} {g n p r : Nat} {V : List Value} {d : Fn} (h : Bp w wr g n p V d r) (m i j : Nat) (x y : Int) (hx : d j = x) (hy : d i = y) (hi : i < n) (hj : j < n) :
    Bp w (((wr.drewN m).setCell ⟨g, i, none⟩ (.int .i32 x)).setCell ⟨g, j, none⟩ (.int .i32 y)) g n p V (sw d i j) r := by
  have hs := Sr.sw' ⟨h.row, h.fr⟩ m i j x y hx hy hi hj
  refine ⟨hs.row, ?_, h.ne, h.new, h.lt, hs.fr⟩
  unfold rngAt
  rw [heap_setCell_other _ _ _ _ (by simp only; exact fun e => h.ne e.symm), heap_setCell_other _ _ _ _ (by simp only; exact fun e => h.ne e.symm)]
  exact h.rng
theorem other_lt (r M l : Nat) (hr : r < 18446744073709551616) (hM1 : 1 ≤ M) (hM2 : M ≤ 2 * l) (hl : l ≤ 1099511627776) : ∃ o : Nat, bits .and .u64 (r : Int) ((M : Int) - 1) = (o : Int) ∧ o < 2 * l := by
  have e : (M : Int) - 1 = ((M - 1 : Nat) : Int) := by omega
  rw [e, u64_and_nat r (M - 1) hr (by omega)]
  have : r &&& (M - 1) ≤ M - 1 := Nat.and_le_right
  exact ⟨_, rfl, by omega⟩
set_option maxHeartbeats 8000000 in
theorem break_any (g n cap a b : Nat) (V : List Value) (d : Fn) (w : World) (hab : a + 13 ≤ b) (hbn : b ≤ n) (hn : n ≤ 1099511627776) (hr : rowD w g n V d) :
    Calls Try.prog 45 #[.slice (some ⟨g, 0, none⟩) n cap, .int .i64 a, .int .i64 b] w fun e w' => PmPost g n a b V d w e w' := by
  obtain ⟨l, hl⟩ : ∃ l, l = b - a := ⟨_, rfl⟩
  have hbi : (b : Int) - (a : Int) = (l : Int) := by omega
  obtain ⟨q, hq⟩ : ∃ q, q = l / 4 := ⟨_, rfl⟩
  have hqi : (l : Int).tdiv 4 = (q : Int) := by rw [Int.tdiv_eq_ediv_of_nonneg (by omega)]; omega
  have hqw : wrap64 (q : Int) = (q : Int) := by unfold wrap64; omega
  have q3 : 3 ≤ q := by omega
  have q4 : 4 * q ≤ l := by omega
  have HB : Hid (b = a + l) := by unfold Hid; omega
  have hal : a + l ≤ n := by omega
  have l13 : 13 ≤ l := by omega
  have t8 : decide ((8 : Int) ≤ (l : Int)) = true := by simp only [decide_eq_true_eq]; omega
  have hlw : IntKind.u64.wrap (l : Int) = (l : Int) := by rw [IntKind.wrap_u64]; omega
  have H0 : Hid (Bp w (w.alloc (.cells #[.int .u64 (l : Int)] 102)) g n w.heap.size V d l) :=
    ⟨by unfold rowD; rw [Below.heap_alloc w _ g (rowD_lt hr)]; exact hr, heap_alloc_new w _, by have := rowD_lt hr; omega, Nat.le_refl _, by omega, World.grownBy_alloc w _ _⟩
  clear hl hq hr hab hbn
  go_enter Try.func45, Try.ntmps45
  go_wp2_with fail
  refine (next_any l _ (by omega) (by omega)).mono ?_
  rintro e w1 ⟨M, rfl, hM1, hM2, rfl⟩
  obtain ⟨i0, hi0⟩ : ∃ i0, i0 = a + q * 2 := ⟨_, rfl⟩
  have ei : (a : Int) + (q : Int) * 2 = (i0 : Int) := by omega
  have bi : a + 6 ≤ i0 ∧ i0 + 2 < a + l := by omega
  clear hi0
  go_wp2
  go_loopw [9] (fun vi wx => ∃ (i r : Nat) (e : Fn), vi = .int .i64 i ∧ i0 ≤ i + 1 ∧ i ≤ i0 + 2 ∧ Hid (Sw a b d e) ∧ Hid (Bp w wx g n w.heap.size V e r)) (fun vi _ => i0 + 2 - (intOf vi).toNat)
  case atStart => exact ⟨i0 - 1, l, d, by congr 1; omega, by omega, by omega, Sw.refl _, H0⟩
  case round =>
    clear H0
    obtain ⟨i, r, e, rfl, hi1, hi2, hse, hst⟩ := hrel
    by_cases hii : i ≤ i0 + 1
    · have hii' : (i : Int) ≤ (i0 : Int) + 1 := by omega
      go_wp2_with fail
      refine (xs_any w.heap.size r wr hst.out.lt hst.out.rng).mono ?_
      rintro e1 w2 ⟨t, rfl, ht, hrt, hgr⟩
      have HS2 : Hid (Bp w w2 g n w.heap.size V e t) := hst.out.next hrt ht hgr
      obtain ⟨o, ho, hol⟩ := other_lt t M l ht hM1 hM2 (by omega)
      clear hrt hgr hst
      have hMw : IntKind.u64.wrap ((M : Int) - 1) = (M : Int) - 1 := by rw [IntKind.wrap_u64]; omega
      have how : IntKind.i64.wrap (o : Int) = (o : Int) := by rw [IntKind.wrap_i64]; omega
      go_upto_if 43 with fail
      go_cut [10] from 26 to 64 (fun v wx => ∃ o2 : Nat, v = .int .i64 o2 ∧ o2 < l ∧ w2 = wx)
      case first =>
        by_cases hol2 : l ≤ o
        · have hol3 : (l : Int) ≤ (o : Int) := by omega
          go_wp2_with fail
          go_meet
          case rel => exact ⟨o - l, by congr 1; omega, by omega, rfl⟩
        · have hol3 : ¬ (l : Int) ≤ (o : Int) := by omega
          go_wp2_with fail
          go_meet
          case rel => exact ⟨o, rfl, by omega, rfl⟩
      case rest =>
      obtain ⟨o2, rfl, ho2, rfl⟩ := hcut
      clear ho hol hMw how
      have c1 := rowD_at HS2.out.row (a + o2) (by omega)
      have c0 := rowD_at HS2.out.row i (by omega)
      have f1 := rowD_fr HS2.out.row (a + o2)
      have f0 := rowD_fr HS2.out.row i
      obtain ⟨x, hx⟩ : ∃ x, e (a + o2) = x := ⟨_, rfl⟩
      obtain ⟨y, hy⟩ : ∃ y, e i = y := ⟨_, rfl⟩
      rw [hx] at c1
      rw [hy] at c0
      have HX : Hid _ := hx
      have HY : Hid _ := hy
      clear hx hy
      have k1 : (a : Int) + (o2 : Int) < (n : Int) := by omega
      have k2 : a + o2 < n := by omega
      have k3 : (i : Int) < (n : Int) := by omega
      have k4 : i < n := by omega
      have k5 : ((a : Int) + (o2 : Int)).toNat = a + o2 := by omega
      have k7 : IntKind.i64.wrap ((a : Int) + (o2 : Int)) = (a : Int) + (o2 : Int) := by rw [IntKind.wrap_i64]; omega
      have k10 : (0 : Int) ≤ (a : Int) + (o2 : Int) := by omega
      have HSE : Hid (Sw a b d (sw e i (a + o2))) := Sw.step _ _ hse.out (by omega) (by have := HB.out; omega) (by omega) (by have := HB.out; omega)
      by_cases hio : i = a + o2
      · have hxy : x = y := by rw [← HX.out, ← HY.out, hio]
        subst hxy
        obtain rfl := hio
        go_wp2
        go_region
        go_wp2
        go_roundw
        case rel => exact ⟨a + o2 + 1, t, sw e (a + o2) (a + o2), by go_num, by omega, by omega, HSE, HS2.out.sw' 1 _ _ _ _ HX.out HY.out (by omega) (by omega)⟩
        case measure => simp [intOf]; omega
      · have n1 : ¬ i = a + o2 := hio
        have n2 : ¬ a + o2 = i := by omega
        clear hio
        go_wp2
        go_region
        go_wp2
        go_roundw
        case rel => exact ⟨i + 1, t, sw e i (a + o2), by go_num, by omega, by omega, HSE, HS2.out.sw' 1 _ _ _ _ HX.out HY.out (by omega) (by omega)⟩
        case measure => simp [intOf]; omega
    · have hii' : ¬ (i : Int) ≤ (i0 : Int) + 1 := by omega
      go_wp2
      go_end0
      exact ⟨e, rfl, hse.out, hst.out.row, hst.out.fr⟩
end Go.Proofs.Qxb6603449a.SO
