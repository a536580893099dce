import Derived.Test.Qxb6603421aRi1
import Derived.Test.Qxb6603421aPieces
import Derived.Test.Qxb6603421aIns
import Derived.BigRegion
import Derived.Deep.DeepCutAuto
import Derived.Deep.LoopGhost
import Derived.Deep.RegionWith
import Derived.Deep.RegionHeld3
import Derived.Deep.Light
namespace Go.Proofs.Qxb6603421a.RI
open Go.RowKit
set_option linter.unusedVariables false

/-! ### The block of a SortedPieces -/
def flat : List (Int × Int) → List Value
  | [] => []
  | p :: L => .int .i64 p.1 :: .int .i64 p.2 :: flat L
def blk (s : ByteArray) (m : Int) (L : List (Int × Int)) : Array Value := (.string s :: .int .i64 m :: (flat L ++ [.slice none 0 0])).toArray
theorem flat_len (L : List (Int × Int)) : (flat L).length = 2 * L.length := by
  induction L with
  | nil => rfl
  | cons p L ih => simp only [flat, List.length_cons, ih]; omega
theorem flat_fst (L : List (Int × Int)) (k : Nat) (h : k < L.length) : (flat L)[2 * k]? = some (.int .i64 (L.getD k (0, 0)).1) := by
  induction L generalizing k with
  | nil => simp at h
  | cons p L ih =>
    cases k with
    | zero => simp [flat]
    | succ k => rw [show 2 * (k + 1) = 2 * k + 1 + 1 from by omega]; simp only [flat, List.getElem?_cons_succ]; rw [ih k (by simpa using h)]; simp
theorem flat_snd (L : List (Int × Int)) (k : Nat) (h : k < L.length) : (flat L)[2 * k + 1]? = some (.int .i64 (L.getD k (0, 0)).2) := by
  induction L generalizing k with
  | nil => simp at h
  | cons p L ih =>
    cases k with
    | zero => simp [flat]
    | succ k => rw [show 2 * (k + 1) + 1 = 2 * k + 1 + 1 + 1 from by omega]; simp only [flat, List.getElem?_cons_succ]; rw [ih k (by simpa using h)]; simp
theorem flat_set (L : List (Int × Int)) (k : Nat) (a b : Int) : ((flat L).set (2 * k) (.int .i64 a)).set (2 * k + 1) (.int .i64 b) = flat (L.set k (a, b)) := by
  induction L generalizing k with
  | nil => rfl
  | cons p L ih =>
    cases k with
    | zero => simp [flat]
    | succ k =>
      rw [show 2 * (k + 1) = 2 * k + 1 + 1 from by omega]
      simp only [flat, List.set_cons_succ, ih]

variable {w : World} {B : Nat} {s : ByteArray} {m : Int} {L : List (Int × Int)}
theorem blk_s (h : w.heap[B]? = some (.cells (blk s m L) 74 (0, 0))) : w.cell? ⟨B, 0, none⟩ = some (.string s) := by
  rw [cell_of_row w B 0 _ 74 (0, 0) h]; simp [blk]
theorem blk_n (h : w.heap[B]? = some (.cells (blk s m L) 74 (0, 0))) : w.cell? ⟨B, 1, none⟩ = some (.int .i64 m) := by
  rw [cell_of_row w B 1 _ 74 (0, 0) h]; simp [blk]
theorem blk_a (h : w.heap[B]? = some (.cells (blk s m L) 74 (0, 0))) (k : Nat) (hk : k < L.length) : w.cell? ⟨B, 2 + k * 2, none⟩ = some (.int .i64 (L.getD k (0, 0)).1) := by
  rw [cell_of_row w B _ _ 74 (0, 0) h, show 2 + k * 2 = 2 * k + 1 + 1 from by omega]
  simp only [blk, List.getElem?_toArray, List.getElem?_cons_succ]
  rw [List.getElem?_append_left (by rw [flat_len]; omega), flat_fst L k hk]
theorem blk_b (h : w.heap[B]? = some (.cells (blk s m L) 74 (0, 0))) (k : Nat) (hk : k < L.length) : w.cell? ⟨B, 2 + k * 2 + 1, none⟩ = some (.int .i64 (L.getD k (0, 0)).2) := by
  rw [cell_of_row w B _ _ 74 (0, 0) h, show 2 + k * 2 + 1 = 2 * k + 1 + 1 + 1 from by omega]
  simp only [blk, List.getElem?_toArray, List.getElem?_cons_succ]
  rw [List.getElem?_append_left (by rw [flat_len]; omega), flat_snd L k hk]
theorem blk_fr (h : w.heap[B]? = some (.cells (blk s m L) 74 (0, 0))) (j : Nat) : w.frozen? ⟨B, j, none⟩ = false := frozen_of_row w B j _ 74 h
theorem blk_set_n (h : w.heap[B]? = some (.cells (blk s m L) 74 (0, 0))) (v : Int) : (w.setCell ⟨B, 1, none⟩ (.int .i64 v)).heap[B]? = some (.cells (blk s v L) 74 (0, 0)) := by
  rw [heap_setCell_same w B 1 _ 74 _ h]; simp [blk]
theorem blk_set (h : w.heap[B]? = some (.cells (blk s m L) 74 (0, 0))) (k : Nat) (hk : k < L.length) (a b : Int) :
    ((w.setCell ⟨B, 2 + k * 2, none⟩ (.int .i64 a)).setCell ⟨B, 2 + k * 2 + 1, none⟩ (.int .i64 b)).heap[B]? = some (.cells (blk s m (L.set k (a, b))) 74 (0, 0)) := by
  rw [heap_setCell_same _ B _ _ 74 _ (heap_setCell_same w B _ _ 74 _ h)]
  congr 2
  have hl := flat_len L
  have e1 : 2 + k * 2 = 2 * k + 1 + 1 := by omega
  rw [e1]
  simp only [blk, List.setIfInBounds_toArray, List.set_cons_succ]
  rw [List.set_append_left _ _ (by rw [hl]; omega), List.set_append_left _ _ (by rw [List.length_set, hl]; omega), flat_set]


def am (s : ByteArray) (i : Nat) : Bool := if h : i < s.size then s[i].toNat == 38 else false
theorem am_of (s : ByteArray) (k : Nat) (h : k < s.size) : ((s[k].toNat : Int) != 38) = !am s k := by
  unfold am; rw [dif_pos h]; rw [Bool.eq_iff_iff]; simp; omega
def up (p : Nat × Nat) : Int × Int := ((p.1 : Int), (p.2 : Int))
/-- The inline cells: the pieces laid over what was there. -/
def over (ps : List (Nat × Nat)) (L0 : List (Int × Int)) : List (Int × Int) := ps.map up ++ L0.drop ps.length
theorem over_nil (L0 : List (Int × Int)) : over [] L0 = L0 := by simp [over]
theorem over_len (ps : List (Nat × Nat)) (L0 : List (Int × Int)) (h : ps.length ≤ L0.length) : (over ps L0).length = L0.length := by
  simp [over]; omega
theorem over_push (ps : List (Nat × Nat)) (L0 : List (Int × Int)) (p : Nat × Nat) (h : ps.length < L0.length) : (over ps L0).set ps.length (up p) = over (ps ++ [p]) L0 := by
  unfold over
  rw [List.set_append_right _ _ (by simp), List.length_map, Nat.sub_self, List.map_append, List.append_assoc]
  congr 1
  rw [List.drop_eq_getElem_cons h]
  rw [List.set_cons_zero, List.length_append, List.length_singleton]
  rfl

abbrev at74 (w : World) (B : Nat) (s : ByteArray) (m : Int) (L : List (Int × Int)) : Prop := w.heap[B]? = some (.cells (blk s m L) 74 (0, 0))

theorem push74 {wr : World} {B : Nat} {s : ByteArray} {ps : List (Nat × Nat)} {L0 : List (Int × Int)} (h : at74 wr B s ps.length (over ps L0)) (hl : ps.length < L0.length) (t k : Nat) :
    at74 (((wr.setCell ⟨B, 2 + ps.length * 2, none⟩ (.int .i64 t)).setCell ⟨B, 2 + ps.length * 2 + 1, none⟩ (.int .i64 k)).setCell ⟨B, 1, none⟩ (.int .i64 ((ps.length : Int) + 1))).drew B s ((ps ++ [(t, k)]).length : Nat) (over (ps ++ [(t, k)]) L0) := by
  have h1 := blk_set h ps.length (by rw [over_len _ _ (by omega)]; omega) (t : Int) (k : Int)
  have h2 := blk_set_n h1 ((ps.length : Int) + 1)
  rw [show ((t : Int), (k : Int)) = up (t, k) from rfl, over_push _ _ _ hl] at h2
  have e : (((ps ++ [(t, k)]).length : Nat) : Int) = (ps.length : Int) + 1 := by simp
  rw [e]
  exact h2

/-- The bytes of piece p lie before those of piece q. -/
def lt (s : ByteArray) (p q : Nat × Nat) : Bool := Op.bytesLess (s.extract p.1 p.2).toList (s.extract q.1 q.2).toList
theorem over_at (Q : List (Nat × Nat)) (L0 : List (Int × Int)) (k : Nat) (h : k < Q.length) : (over Q L0).getD k (0, 0) = up (Q.getD k (0, 0)) := by
  unfold over
  simp only [List.getD_eq_getElem?_getD]
  rw [List.getElem?_append_left (by simpa using h), List.getElem?_map]
  simp [h]
theorem over_set (Q : List (Nat × Nat)) (L0 : List (Int × Int)) (k : Nat) (p : Nat × Nat) (h : k < Q.length) : (over Q L0).set k (up p) = over (Q.set k p) L0 := by
  unfold over
  rw [List.set_append_left _ _ (by simpa using h), List.map_set, List.length_set]
theorem mem_getD (Q : List (Nat × Nat)) (k : Nat) (h : k < Q.length) : Q.getD k (0, 0) ∈ Q := by
  have e : Q.getD k (0, 0) = Q[k] := by simp [h]
  rw [e]; exact List.getElem_mem h

/-- What the sort's rounds keep: the pieces, in some order, over the first cells. -/
structure Sorting (s : ByteArray) (B : Nat) (L0 : List (Int × Int)) (ps Q : List (Nat × Nat)) (w wr : World) : Prop where
  perm : Q.Perm ps
  at_ : at74 wr B s ps.length (over Q L0)
  below : Below B w wr

theorem undrew {w w' : World} (h : Below w.drew.heap.size w.drew w') : Below w.heap.size w w' := ⟨h.os, h.tape, h.output, h.size, h.block⟩
theorem Sorting.on {s : ByteArray} {B : Nat} {L0 : List (Int × Int)} {ps Q : List (Nat × Nat)} {w wz w' : World} (h : Sorting s B L0 ps Q w wz) (hB : B < wz.heap.size) (hw : Below wz.heap.size wz w') : Sorting s B L0 ps Q w w' :=
  ⟨h.perm, by unfold at74; rw [hw.block B hB]; exact h.at_, h.below.trans (hw.mono (by omega))⟩
theorem Sorting.swap {s : ByteArray} {B : Nat} {L0 : List (Int × Int)} {ps Q : List (Nat × Nat)} {w wz : World} (h : Sorting s B L0 ps Q w wz) (hL : ps.length ≤ L0.length) (j : Nat) (hj : 1 ≤ j) (hl : j < ps.length)
    (a0 a1 b0 b1 : Nat) (h1 : (a0, a1) = Q.getD j (0, 0)) (h0 : (b0, b1) = Q.getD (j - 1) (0, 0)) :
    Sorting s B L0 ps (swp (0, 0) Q j) w ((((wz.setCell ⟨B, 2 + (j - 1) * 2, none⟩ (.int .i64 a0)).setCell ⟨B, 2 + (j - 1) * 2 + 1, none⟩ (.int .i64 a1)).setCell ⟨B, 2 + j * 2, none⟩ (.int .i64 b0)).setCell ⟨B, 2 + j * 2 + 1, none⟩ (.int .i64 b1)).drew := by
  have hq : Q.length = ps.length := h.perm.length_eq
  refine ⟨(swp_perm (0, 0) Q j hj (by omega)).trans h.perm, ?_, ((((h.below.setCell (Nat.le_refl _) _).setCell (Nat.le_refl _) _).setCell (Nat.le_refl _) _).setCell (Nat.le_refl _) _).drew⟩
  have e1 := blk_set h.at_ (j - 1) (by rw [over_len _ _ (by omega)]; omega) (a0 : Int) (a1 : Int)
  have e2 := blk_set e1 j (by rw [List.length_set, over_len _ _ (by omega)]; omega) (b0 : Int) (b1 : Int)
  rw [show ((a0 : Int), (a1 : Int)) = up (a0, a1) from rfl, show ((b0 : Int), (b1 : Int)) = up (b0, b1) from rfl, over_set Q L0 (j - 1) _ (by omega), over_set _ L0 j _ (by rw [List.length_set]; omega), h1, h0] at e2
  exact e2

theorem bytesLess_asym (l m : List UInt8) (h : Op.bytesLess l m = true) : Op.bytesLess m l = false := by
  induction l generalizing m with
  | nil => cases m <;> simp [Op.bytesLess]
  | cons a l ih =>
    cases m with
    | nil => simp [Op.bytesLess] at h
    | cons b m =>
      simp only [Op.bytesLess, Bool.or_eq_true, decide_eq_true_eq, Bool.and_eq_true, beq_iff_eq] at h
      simp only [Op.bytesLess, Bool.or_eq_false_iff, decide_eq_false_iff_not, Bool.and_eq_false_iff, beq_eq_false_iff_ne]
      rcases h with h | ⟨rfl, h⟩
      · rw [UInt8.lt_iff_toNat_lt] at h
        refine ⟨by rw [UInt8.lt_iff_toNat_lt]; omega, Or.inl fun e => ?_⟩
        subst e; omega
      · exact ⟨by rw [UInt8.lt_iff_toNat_lt]; omega, Or.inr (ih m h)⟩
theorem lt_asym (s : ByteArray) (p q : Nat × Nat) (h : lt s p q = true) : lt s q p = false := bytesLess_asym _ _ h

set_option maxHeartbeats 1600000 in
theorem read_any (s : ByteArray) (B : Nat) (L0 : List (Int × Int)) (hL : L0.length = 16) (w : World) (hB : B < w.heap.size)
    (hb : w.heap[B]? = some (.cells (blk s 0 L0) 74 (0, 0))) (hm : s.size ≤ 1048576) (hP : (P (am s) s.size s.size).length ≤ 16) :
    Calls Try.prog 36 #[.pointer (some ⟨B, 0, none⟩)] w fun e w' => e = .returned (.tuple #[]) ∧ ∃ Q, Q.Perm (P (am s) s.size s.size) ∧ Out (lt s) (0, 0) Q Q.length ∧ at74 w' B s Q.length (over Q L0) ∧ Below B w w' := by
  have c0 := blk_s hb
  go_enter Try.func36, Try.ntmps36
  go_wp2
  go_loopw [3, 4] (fun st i wr => ∃ (k t : Nat) (ps : List (Nat × Nat)), st = .int .i64 t ∧ i = .int .i64 k ∧ Hid (Scan (am s) s.size k t ps) ∧ Hid (at74 wr B s ps.length (over ps L0)) ∧ Hid (Below B w wr))
    (fun _ i _ => s.size + 1 - (intOf i).toNat)
  case atStart => exact ⟨0, 0, [], rfl, rfl, scan_start _ _, by rw [over_nil]; exact hb, Below.refl _ _⟩
  case round =>
    obtain ⟨k, t, ps, rfl, rfl, hsc, hbk, hbl⟩ := hrel
    clear hb c0
    have hk1 := (scan_bd hsc.out).2
    have hps := (scan_bd hsc.out).1
    by_cases hk : k ≤ s.size
    · by_cases hk2 : k < s.size ∧ am s k = false
      · obtain ⟨hlt, ha⟩ := hk2
        have hne : ((s[k].toNat : Int) != 38) = true := by rw [am_of s k hlt, ha]; rfl
        go_wp2
        go_roundw
        case rel => exact ⟨k + 1, t, ps, by go_num, by go_num, scan_on hsc.out hlt ha, hbk, hbl⟩
        case measure => simp [intOf]; omega
      · have hbd : k = s.size ∨ am s k = true := by
          by_cases hlt : k < s.size
          · right; simpa [hlt] using hk2
          · left; omega
        clear hk2
        by_cases htk : t < k
        · have hl16 : ps.length < 16 := by have := (scan_piece hsc.out hk hbd htk).2; omega
          have c1 := blk_n hbk.out
          have ca := blk_a hbk.out ps.length (by rw [over_len _ _ (by omega)]; omega)
          have cb := blk_b hbk.out ps.length (by rw [over_len _ _ (by omega)]; omega)
          have f1 := blk_fr hbk.out (2 + ps.length * 2)
          have f2 := blk_fr hbk.out (2 + ps.length * 2 + 1)
          have f3 := blk_fr hbk.out 1
          by_cases hlt : k < s.size
          · have hne : ((s[k].toNat : Int) != 38) = false := by
              rw [am_of s k hlt]; rcases hbd with hbd | hbd
              · omega
              · rw [hbd]; rfl
            have HB : Hid (k = s.size ∨ am s k = true) := hbd
            clear hbd
            go_wp2
            go_region
            go_wp2
            go_roundw
            case rel => exact ⟨k + 1, k + 1, ps ++ [(t, k)], by go_num, by go_num, (scan_piece hsc.out hk HB.out htk).1, push74 hbk.out (by omega) t k, (((hbl.out.setCell (Nat.le_refl _) _).setCell (Nat.le_refl _) _).setCell (Nat.le_refl _) _).drew⟩
            case measure => simp [intOf]; omega
          · have HB : Hid (k = s.size ∨ am s k = true) := hbd
            clear hbd
            go_wp2
            go_region
            go_wp2
            go_roundw
            case rel => exact ⟨k + 1, k + 1, ps ++ [(t, k)], by go_num, by go_num, (scan_piece hsc.out hk HB.out htk).1, push74 hbk.out (by omega) t k, (((hbl.out.setCell (Nat.le_refl _) _).setCell (Nat.le_refl _) _).setCell (Nat.le_refl _) _).drew⟩
            case measure => simp [intOf]; omega
        · by_cases hlt : k < s.size
          · have hne : ((s[k].toNat : Int) != 38) = false := by
              rw [am_of s k hlt]; rcases hbd with hbd | hbd
              · omega
              · rw [hbd]; rfl
            have HB : Hid (k = s.size ∨ am s k = true) := hbd
            clear hbd
            go_wp2
            go_roundw
            case rel => exact ⟨k + 1, k + 1, ps, by go_num, by go_num, scan_none hsc.out hk HB.out htk, hbk, hbl⟩
            case measure => simp [intOf]; omega
          · have HB : Hid (k = s.size ∨ am s k = true) := hbd
            clear hbd
            go_wp2
            go_roundw
            case rel => exact ⟨k + 1, k + 1, ps, by go_num, by go_num, scan_none hsc.out hk HB.out htk, hbk, hbl⟩
            case measure => simp [intOf]; omega
    · have e1 : Hid (ps = P (am s) s.size s.size) := scan_end hsc.out hk
      have c1 := blk_n hbk.out
      have hl : (ps.length : Int) ≤ 16 := by omega
      have pin : Hid (∀ p ∈ ps, p.1 < p.2 ∧ p.2 ≤ s.size) := by unfold Hid; rw [e1.out]; exact P_in _ _ _ (Nat.le_refl _)
      clear hsc
      go_wp2
      go_quiet (fail)
      go_wp2
      have hst : Sorting s B L0 ps ps w (wr.drewN nq) := ⟨List.Perm.refl _, hbk.out, below_drewN hbl.out _⟩
      go_loopw [6] (fun i wq => ∃ (k : Nat) (Q : List (Nat × Nat)), i = .int .i64 k ∧ 1 ≤ k ∧ k ≤ ps.length + 1 ∧ Hid (Out (lt s) (0, 0) Q k) ∧ Hid (Sorting s B L0 ps Q w wq))
        (fun i _ => ps.length + 1 - (intOf i).toNat)
      case atStart => exact ⟨1, ps, rfl, by omega, by omega, (fun t a b => by omega), hst⟩
      case round =>
        obtain ⟨k2, Q, rfl, hk1, hk2, ho, hq⟩ := hrel
        clear hst hbk hbl c1
        by_cases hkl : k2 < ps.length
        · go_wp2
          go_loopw [7] (fun jj wz => ∃ (j : Nat) (Q : List (Nat × Nat)), jj = .int .i64 j ∧ j ≤ k2 ∧ Hid (Inn (lt s) (0, 0) Q k2 j) ∧ Hid (Sorting s B L0 ps Q w wz))
            (fun jj _ => (intOf jj).toNat)
          case atStart => exact ⟨k2, Q, rfl, by omega, inn_start _ _ ho.out, hq⟩
          case round =>
            obtain ⟨j, Q, rfl, hj, hin, hq⟩ := hrel
            have hQl : Q.length = ps.length := hq.out.perm.length_eq
            rcases Nat.eq_zero_or_pos j with rfl | hjp
            · go_wp2
              go_quiet (fail)
              go_wp2
              go_roundw
              case rel => exact ⟨k2 + 1, Q, by go_num, by omega, by omega, inn_zero _ _ hin.out, hq.out.on (by have := hq.out.below.size; omega) (below_drewN (Below.refl _ _) _)⟩
              case measure => simp [intOf]; omega
            · have m1 := pin.out _ (hq.out.perm.mem_iff.mp (mem_getD Q j (by omega)))
              have m0 := pin.out _ (hq.out.perm.mem_iff.mp (mem_getD Q (j - 1) (by omega)))
              have c0 := blk_s hq.out.at_
              have ca1 := blk_a hq.out.at_ j (by rw [over_len _ _ (by omega)]; omega)
              have cb1 := blk_b hq.out.at_ j (by rw [over_len _ _ (by omega)]; omega)
              have ca0 := blk_a hq.out.at_ (j - 1) (by rw [over_len _ _ (by omega)]; omega)
              have cb0 := blk_b hq.out.at_ (j - 1) (by rw [over_len _ _ (by omega)]; omega)
              rw [over_at Q L0 _ (by omega)] at ca1 cb1 ca0 cb0
              have f0 := blk_fr hq.out.at_ (2 + j * 2)
              have f1 := blk_fr hq.out.at_ (2 + j * 2 + 1)
              have f2 := blk_fr hq.out.at_ (2 + (j - 1) * 2)
              have f3 := blk_fr hq.out.at_ (2 + (j - 1) * 2 + 1)
              obtain ⟨p1, hp1⟩ : ∃ p, p = Q.getD j (0, 0) := ⟨_, rfl⟩
              obtain ⟨p0, hp0⟩ : ∃ p, p = Q.getD (j - 1) (0, 0) := ⟨_, rfl⟩
              rw [← hp1] at m1 ca1 cb1
              rw [← hp0] at m0 ca0 cb0
              have HP1 : Hid (p1 = Q.getD j (0, 0)) := hp1
              have HP0 : Hid (p0 = Q.getD (j - 1) (0, 0)) := hp0
              obtain ⟨a0, a1⟩ := p1
              obtain ⟨b0, b1⟩ := p0
              simp only [up] at m1 m0 ca1 cb1 ca0 cb0
              clear hp1 hp0
              have hij : (j : Int) < (ps.length : Int) := by omega
              have hj0 : (0 : Int) < (j : Int) := by omega
              have hjn : j < ps.length := by omega
              have hjm : ((j : Int) - 1).toNat = j - 1 := by omega
              have hjm0 : (0 : Int) ≤ (j : Int) - 1 := by omega
              have hj1 : (1 : Int) ≤ (j : Int) := by omega
              have hjle : (j : Int) ≤ (ps.length : Int) := by omega
              have hjle' : j ≤ ps.length := by omega
              have hjw : IntKind.i64.wrap ((j : Int) - 1) = (j : Int) - 1 := by rw [IntKind.wrap_i64]; omega
              have hjm1 : (j : Int) - 1 < (ps.length : Int) := by omega
              obtain ⟨ma, mb⟩ := m1
              obtain ⟨mc, md⟩ := m0
              have hBz : B < wr.heap.size := by have := hq.out.below.size; omega
              clear hP hps hk1 hk ho hQl pin e1
              go_wp2
              go_region_held3 (fun w' => w'.cell? ⟨B, 2 + j * 2, none⟩ = some (.int .i64 (a0 : Int)) ∧ w'.cell? ⟨B, 2 + j * 2 + 1, none⟩ = some (.int .i64 (a1 : Int)) ∧ w'.cell? ⟨B, 2 + (j - 1) * 2, none⟩ = some (.int .i64 (b0 : Int)) ∧ w'.cell? ⟨B, 2 + (j - 1) * 2 + 1, none⟩ = some (.int .i64 (b1 : Int))) (go_keep) ((go_at_call 37; refine (before_any s B a0 a1 b0 b1 _ (by simpa using hBz) (by simpa using c0) ma mb mc md hm).mono ?_; rintro e w' ⟨rfl, hbel⟩; have q0 := (hbel.cell (p := ⟨B, 2 + j * 2, none⟩) hBz).trans ca1; have q1 := (hbel.cell (p := ⟨B, 2 + j * 2 + 1, none⟩) hBz).trans cb1; have q2 := (hbel.cell (p := ⟨B, 2 + (j - 1) * 2, none⟩) hBz).trans ca0; have q3 := (hbel.cell (p := ⟨B, 2 + (j - 1) * 2 + 1, none⟩) hBz).trans cb0; have g0 := (hbel.frozen (p := ⟨B, 2 + j * 2, none⟩) hBz).trans f0; have g1 := (hbel.frozen (p := ⟨B, 2 + j * 2 + 1, none⟩) hBz).trans f1; have g2 := (hbel.frozen (p := ⟨B, 2 + (j - 1) * 2, none⟩) hBz).trans f2; have g3 := (hbel.frozen (p := ⟨B, 2 + (j - 1) * 2 + 1, none⟩) hBz).trans f3))
              go_wp2
              · have hl : Op.bytesLess (s.extract a0 a1).toList (s.extract b0 b1).toList = true := by assumption
                have HL : Hid (lt s (a0, a1) (b0, b1) = true) := hl
                clear hl
                go_region
                go_wp2
                go_roundw
                case rel =>
                  refine ⟨j - 1, swp (0, 0) Q j, by congr 1; omega, by omega, ?_, ?_⟩
                  · refine inn_swap _ _ (lt_asym s) hin.out hjp hj (by rw [hq.out.perm.length_eq]; omega) ?_
                    rw [← HP1.out, ← HP0.out]; exact HL.out
                  · exact (hq.out.on hBz (undrew hbel)).swap (by omega) j hjp hjn a0 a1 b0 b1 HP1.out HP0.out
                case measure => simp [intOf]; omega
              · have hl : Op.bytesLess (s.extract a0 a1).toList (s.extract b0 b1).toList = false := by assumption
                have HL : Hid (lt s (a0, a1) (b0, b1) = false) := hl
                clear hl
                go_roundw
                case rel => exact ⟨k2 + 1, Q, by go_num, by omega, by omega, inn_stop _ _ hin.out (by rw [← HP1.out, ← HP0.out]; exact HL.out), hq.out.on hBz (undrew hbel)⟩
                case measure => simp [intOf]; omega
        · go_wp2
          go_end0
          refine ⟨rfl, Q, by rw [← e1.out]; exact hq.out.perm, fun t a b => ho.out t a (by rw [hq.out.perm.length_eq] at b; omega), ?_, hq.out.below⟩
          rw [hq.out.perm.length_eq]; exact hq.out.at_
end Go.Proofs.Qxb6603421a.RI
