import Derived.Test.Qxb6603421aSd4
import Derived.Test.Qxb6603421aIns
namespace Go.Proofs.Qxb6603421a.SD
open Go.RowKit Go.Proofs.Qxb6603421a.RI
set_option linter.unusedVariables false
set_option linter.unusedSimpArgs false

/-- The order by W alone. -/
def lw (a b : Ky) : Bool := decide (a.1 < b.1)
theorem lw_asym (a b : Ky) (h : lw a b = true) : lw b a = false := by
  unfold lw at *; simp only [decide_eq_true_eq, decide_eq_false_iff_not] at *; omega
theorem rk_false (k : Ky) : rk false k = k.1 := rfl
/-- Two lists that agree when sifted by any W. -/
def Sift (Q G : List Ky) : Prop := Q.length = G.length ∧ ∀ v, Q.filter (fun a => a.1 == v) = G.filter (fun a => a.1 == v)
theorem swp_split (Q : List Ky) (j : Nat) (hj : 1 ≤ j) (hl : j < Q.length) :
    ∃ A B, Q = A ++ Q.getD (j - 1) (0, 0) :: Q.getD j (0, 0) :: B ∧ swp (0, 0) Q j = A ++ Q.getD j (0, 0) :: Q.getD (j - 1) (0, 0) :: B := by
  have e1 : Q.getD j (0, 0) = Q[j] := by simp [hl]
  have e2 : Q.getD (j - 1) (0, 0) = Q[j - 1]'(by omega) := by simp [show j - 1 < Q.length by omega]
  have q : Q = Q.take (j - 1) ++ Q[j - 1]'(by omega) :: Q[j] :: Q.drop (j + 1) := by
    have h1 : Q.drop (j - 1) = Q[j - 1]'(by omega) :: Q.drop (j - 1 + 1) := List.drop_eq_getElem_cons (by omega)
    have h2 : Q.drop j = Q[j] :: Q.drop (j + 1) := List.drop_eq_getElem_cons hl
    rw [show j - 1 + 1 = j from by omega, h2] at h1
    rw [← h1, List.take_append_drop]
  refine ⟨Q.take (j - 1), Q.drop (j + 1), by rw [e1, e2]; exact q, ?_⟩
  unfold swp
  rw [e1, e2]
  generalize Q[j - 1]'(by omega) = x at q
  generalize Q[j] = y at q
  have hlen : (Q.take (j - 1)).length = j - 1 := by rw [List.length_take]; omega
  generalize Q.take (j - 1) = A at q hlen
  generalize Q.drop (j + 1) = B at q
  rw [q, List.set_append_right _ _ (by omega), hlen, Nat.sub_self, List.set_cons_zero, List.set_append_right _ _ (by omega), hlen, show j - (j - 1) = 1 from by omega]
  rfl
theorem Sift.swp {Q G : List Ky} (h : Sift Q G) (j : Nat) (hj : 1 ≤ j) (hl : j < Q.length) (hlt : lw (Q.getD j (0, 0)) (Q.getD (j - 1) (0, 0)) = true) : Sift (swp (0, 0) Q j) G := by
  refine ⟨by rw [swp_len]; exact h.1, fun v => ?_⟩
  obtain ⟨A, B, e1, e2⟩ := swp_split Q j hj hl
  rw [← h.2 v, e2]
  conv => rhs; rw [e1]
  unfold lw at hlt
  simp only [decide_eq_true_eq] at hlt
  exact swap_filter (fun k : Ky => k.1) A B _ _ (by omega) v
theorem sift_ss {Q G : List Ky} (h : Sift Q G) (ho : Out lw (0, 0) Q Q.length) : SS (rk false) Q G := by
  refine ⟨adj_sorted (rk false) (0, 0) Q fun t a b => ?_, fun v => h.2 v⟩
  have := ho t a b
  unfold okAt lw at this
  simp only [decide_eq_false_iff_not] at this
  simp only [rk_false]; omega

/-- The two rows of keys of the program's own type. -/
structure Duo (ga gb N : Nat) (A B : List Ky) (w wr : World) : Prop where
  a : atK wr ga 57 A
  b : atK wr gb 57 B
  ne : ga ≠ gb
  la : N ≤ ga
  lb : N ≤ gb
  below : Below N w wr
section
variable {ga gb N : Nat} {A B : List Ky} {w wr wq : World}
theorem Duo.on (h : Duo ga gb N A B w wr) (hb : Below wr.heap.size wr wq) : Duo ga gb N A B w wq :=
  ⟨(hb.block _ (atK_lt h.a)).trans h.a, (hb.block _ (atK_lt h.b)).trans h.b, h.ne, h.la, h.lb, h.below.trans (hb.mono (by have := atK_lt h.a; have := h.la; omega))⟩
theorem Duo.put (h : Duo ga gb N A B w wr) (k : Nat) (x1 : Nat) (x2 : Int) :
    Duo ga gb N A (B.set k (x1, x2)) w ((wr.setCell ⟨gb, k * 2, none⟩ (.int .u64 (x1 : Int))).setCell ⟨gb, k * 2 + 1, none⟩ (.int .i64 x2)) :=
  ⟨atK_far (atK_far h.a _ _ h.ne) _ _ h.ne, atK_set h.b k x1 x2, h.ne, h.la, h.lb, (h.below.setCell h.lb _).setCell h.lb _⟩
theorem Duo.swap (h : Duo ga gb N A B w wr) : Duo gb ga N B A w wr :=
  ⟨h.b, h.a, fun e => h.ne e.symm, h.lb, h.la, h.below⟩
theorem Duo.ex (h : Duo ga gb N A B w wr) (j : Nat) (x1 y1 : Nat) (x2 y2 : Int) (hx : (x1, x2) = A.getD j (0, 0)) (hy : (y1, y2) = A.getD (j - 1) (0, 0)) :
    Duo ga gb N (swp (0, 0) A j) B w ((((wr.setCell ⟨ga, (j - 1) * 2, none⟩ (.int .u64 (x1 : Int))).setCell ⟨ga, (j - 1) * 2 + 1, none⟩ (.int .i64 x2)).setCell ⟨ga, j * 2, none⟩ (.int .u64 (y1 : Int))).setCell ⟨ga, j * 2 + 1, none⟩ (.int .i64 y2)) := by
  have h1 := ((h.swap.put (j - 1) x1 x2).put j y1 y2).swap
  rw [hx, hy] at h1
  exact h1
end

def SmPost (ga gb N : Nat) (G T : List Ky) (w : World) (e : Ending) (w' : World) : Prop := ∃ Q, e = .returned (.tuple #[]) ∧ SS (rk false) Q G ∧ Duo ga gb N Q T w w'

set_option maxRecDepth 100000 in
set_option maxHeartbeats 4000000 in
theorem small (ga gb N : Nat) (G T : List Ky) (ct : Nat) (w : World) (hn : G.length ≤ 32) (hd : Duo ga gb N G T w w) :
    Calls Try.prog 30 #[.slice (some ⟨ga, 0, none⟩) G.length G.length, .slice (some ⟨gb, 0, none⟩) T.length T.length] w fun e w' => SmPost ga gb N G T w e w' := by
  have HD : Hid _ := hd
  clear hd
  have n1 : decide ((G.length : Int) ≤ 32) = true := by simp only [decide_eq_true_eq]; omega
  go_enter Try.func30, Try.ntmps30
  go_wp2
  go_loopw [4] (fun i wq => ∃ (k : Nat) (Q : List Ky), i = .int .i64 k ∧ 1 ≤ k ∧ k ≤ G.length + 1 ∧ Hid (Out lw (0, 0) Q k ∧ Sift Q G) ∧ Hid (Duo ga gb N Q T w wq))
    (fun i _ => G.length + 1 - (intOf i).toNat)
  case atStart => exact ⟨1, G, rfl, by omega, by omega, ⟨fun t a b => by omega, rfl, fun _ => rfl⟩, HD⟩
  case round =>
    obtain ⟨k, Q, rfl, hk1, hk2, ho, hq⟩ := hrel
    clear HD
    by_cases hkl : k < G.length
    · go_wp2
      go_loopw [5] (fun jj wz => ∃ (j : Nat) (Q : List Ky), jj = .int .i64 j ∧ j ≤ k ∧ Hid (Inn lw (0, 0) Q k j ∧ Sift Q G) ∧ Hid (Duo ga gb N Q T w wz))
        (fun jj _ => (intOf jj).toNat)
      case atStart => exact ⟨k, Q, rfl, by omega, ⟨inn_start _ _ ho.out.1, ho.out.2⟩, hq⟩
      case round =>
        clear ho hq Q
        obtain ⟨j, Q, rfl, hj, hin, hq⟩ := hrel
        have hQl : Q.length = G.length := hin.out.2.1
        have HQL : Hid _ := hQl
        rcases Nat.eq_zero_or_pos j with rfl | hjp
        · clear hQl
          go_wp2
          go_quiet (fail)
          go_wp2
          go_roundw
          case rel => exact ⟨k + 1, Q, by go_num, by omega, by omega, ⟨inn_zero _ _ hin.out.1, hin.out.2⟩, hq.out.on (below_drewN (Below.refl _ _) _)⟩
          case measure => simp [intOf]; omega
        · have ca1 := atK_w hq.out.a j (by omega)
          have cb1 := atK_a hq.out.a j (by omega)
          have ca0 := atK_w hq.out.a (j - 1) (by omega)
          have cb0 := atK_a hq.out.a (j - 1) (by omega)
          have f0 := atK_fr hq.out.a (j * 2)
          have f1 := atK_fr hq.out.a (j * 2 + 1)
          have f2 := atK_fr hq.out.a ((j - 1) * 2)
          have f3 := atK_fr hq.out.a ((j - 1) * 2 + 1)
          obtain ⟨p1, hp1⟩ : ∃ p, p = Q.getD j (0, 0) := ⟨_, rfl⟩
          obtain ⟨p0, hp0⟩ : ∃ p, p = Q.getD (j - 1) (0, 0) := ⟨_, rfl⟩
          rw [← hp1] at ca1 cb1
          rw [← hp0] at ca0 cb0
          have HP1 : Hid (p1 = Q.getD j (0, 0)) := hp1
          have HP0 : Hid (p0 = Q.getD (j - 1) (0, 0)) := hp0
          obtain ⟨a0, a1⟩ := p1
          obtain ⟨b0, b1⟩ := p0
          simp only at ca1 cb1 ca0 cb0
          clear hp1 hp0 hQl
          have hij : (j : Int) < (G.length : Int) := by omega
          have hj0 : (0 : Int) < (j : Int) := by omega
          have hjd : decide ((0 : Int) < (j : Int)) = true := by simp only [decide_eq_true_eq]; omega
          have hjd2 : decide (0 < j) = true := by simp only [decide_eq_true_eq]; omega
          have hjn : j < G.length := by omega
          have hjm : ((j : Int) - 1).toNat = j - 1 := by omega
          have hjm0 : (0 : Int) ≤ (j : Int) - 1 := by omega
          have hj1 : (1 : Int) ≤ (j : Int) := by omega
          have hjle : (j : Int) ≤ (G.length : Int) := by omega
          have hjle' : j ≤ G.length := by omega
          have hjm1 : (j : Int) - 1 < (G.length : Int) := by omega
          by_cases hlt : a0 < b0
          · have HL : Hid (lw (a0, a1) (b0, b1) = true) := by unfold Hid lw; simp only [decide_eq_true_eq]; omega
            go_wp2
            go_quiet (fail)
            go_wp2
            go_region
            go_wp2
            go_roundw
            case rel =>
              refine ⟨j - 1, swp (0, 0) Q j, by congr 1; omega, by omega, ⟨?_, ?_⟩, ?_⟩
              · refine inn_swap _ _ lw_asym hin.out.1 hjp hj (by have := HQL.out; omega) ?_
                rw [← HP1.out, ← HP0.out]; exact HL.out
              · refine hin.out.2.swp j hjp (by have := HQL.out; omega) ?_
                rw [← HP1.out, ← HP0.out]; exact HL.out
              · exact (hq.out.on (below_drewN (Below.refl _ _) _)).ex j a0 b0 a1 b1 HP1.out HP0.out
            case measure => simp [intOf]; omega
          · have HL : Hid (lw (a0, a1) (b0, b1) = false) := by unfold Hid lw; simp only [decide_eq_false_iff_not]; omega
            go_wp2
            go_quiet (fail)
            go_wp2
            go_roundw
            case rel => exact ⟨k + 1, Q, by go_num, by omega, by omega, ⟨inn_stop _ _ hin.out.1 (by rw [← HP1.out, ← HP0.out]; exact HL.out), hin.out.2⟩, hq.out.on (below_drewN (Below.refl _ _) _)⟩
            case measure => simp [intOf]; omega
    · go_wp2
      go_end0
      have e : Q.length = G.length := ho.out.2.1
      exact ⟨Q, rfl, sift_ss ho.out.2 (fun t a b => ho.out.1 t a (by omega)), hq.out⟩
end Go.Proofs.Qxb6603421a.SD
