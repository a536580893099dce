import Derived.Test.Qxb6603421aSd3
import Derived.Deep.CutRange
namespace Go.Proofs.Qxb6603421a.SD
open Go.RowKit
set_option linter.unusedVariables false
set_option linter.unusedSimpArgs false

def Okl (L : List Ky) : Prop := ∀ x ∈ L, okK x
theorem okl_at {L : List Ky} (h : Okl L) (k : Nat) (hk : k < L.length) : okK (L.getD k (0, 0)) := by
  have e : L.getD k (0, 0) = L[k] := by simp [hk]
  rw [e]; exact h _ (List.getElem_mem hk)
theorem okl_set {L : List Ky} (h : Okl L) (k : Nat) (x : Ky) (hx : okK x) : Okl (L.set k x) := fun y hy => by
  rcases List.mem_or_eq_of_mem_set hy with h1 | h1
  · exact h y h1
  · rw [h1]; exact hx
theorem okl_zero (n : Nat) : Okl (List.replicate n ((0 : Nat), (0 : Int))) := fun y hy => by
  rw [List.eq_of_mem_replicate hy]; exact ⟨by decide, by decide, by decide⟩

/-- The two rows of a merge sort: the one that is read and the one that is written. -/
structure Two (ga gb N : Nat) (A B : List Ky) (w wr : World) : Prop where
  a : atK wr ga 60 A
  b : atK wr gb 60 B
  ne : ga ≠ gb
  la : N ≤ ga
  lb : N ≤ gb
  below : Below N w wr
theorem Two.on {ga gb N : Nat} {A B : List Ky} {w wr wq : World} (h : Two ga gb N A B w wr) (hb : Below wr.heap.size wr wq) : Two ga gb N A B w wq :=
  ⟨(hb.block _ (atK_lt h.a)).trans h.a, (hb.block _ (atK_lt h.b)).trans h.b, h.ne, h.la, h.lb, h.below.trans (hb.mono (by have := atK_lt h.a; have := h.la; omega))⟩
theorem Two.put {ga gb N : Nat} {A B : List Ky} {w wr : World} (h : Two ga gb N A B w wr) (k : Nat) (x1 : Nat) (x2 : Int) :
    Two ga gb N A (B.set k (x1, x2)) w ((wr.setCell ⟨gb, k * 2, none⟩ (.int .u64 (x1 : Int))).setCell ⟨gb, k * 2 + 1, none⟩ (.int .i64 x2)) :=
  ⟨atK_far (atK_far h.a _ _ h.ne) _ _ h.ne, atK_set h.b k x1 x2, h.ne, h.la, h.lb, (h.below.setCell h.lb _).setCell h.lb _⟩
theorem Two.swap {ga gb N : Nat} {A B : List Ky} {w wr : World} (h : Two ga gb N A B w wr) : Two gb ga N B A w wr :=
  ⟨h.b, h.a, fun e => h.ne e.symm, h.lb, h.la, h.below⟩

theorem less_to (x1 y1 : Nat) (x2 y2 : Int) (full r : Bool) (hx : okK (x1, x2)) (hy : okK (y1, y2)) (hr : r = decide (rk full (x1, x2) < rk full (y1, y2))) (w : World) :
    Calls Try.prog 33 #[.agg #[.int .u64 (x1 : Int), .int .i64 x2], .agg #[.int .u64 (y1 : Int), .int .i64 y2], .bool full] w fun e w' => e = .returned (.bool r) ∧ Below w.heap.size w w' := by
  subst hr; exact less_any (x1, x2) (y1, y2) full hx hy w
theorem undrew {w w' : World} (h : Below w.drew.heap.size w.drew w') : Below w.heap.size w w' := ⟨h.os, h.tape, h.output, h.size, h.block⟩

set_option maxRecDepth 100000 in
set_option maxHeartbeats 6400000 in
theorem msort_any (ao : Option Addr) (cap : Nat) (K : List Ky) (full : Bool) (w : World) (hl : K.length ≤ 1048576) (hr : Rd w ao K) (hok : Okl K) :
    Calls Try.prog 15 #[.slice ao K.length cap, .bool full] w fun e w' => ∃ g R, e = .returned (.slice (some ⟨g, 0, none⟩) K.length K.length) ∧ atK w' g 60 R ∧ SS (rk full) R K ∧ Below w.heap.size w w' := by
  have hmk := make22 K.length hl
  have h0 : atK (w.alloc (.cells (kflat (List.replicate K.length ((0 : Nat), (0 : Int)))).toArray 60)) w.heap.size 60 (fill K 0) := by
    have e : fill K 0 = List.replicate K.length ((0 : Nat), (0 : Int)) := by simp [fill]
    rw [e]; exact heap_alloc_new w _
  have H0 : Hid _ := h0
  have HR : Hid _ := hr
  have HOK : Hid _ := hok
  clear h0 hr hok
  go_enter Try.func15, Try.ntmps15
  go_wp2
  go_loopw [7] (fun i wr => ∃ k : Nat, i = .int .i64 k ∧ k ≤ K.length ∧ Hid (atK wr w.heap.size 60 (fill K k)) ∧ Hid (Below w.heap.size w wr)) (fun i _ => K.length - (intOf i).toNat)
  case atStart => exact ⟨0, rfl, Nat.zero_le _, H0, (Below.refl _ _).alloc (Nat.le_refl _) _⟩
  case round =>
    obtain ⟨k, rfl, hk, ha, hb⟩ := hrel
    clear H0
    by_cases hlt : k < K.length
    · rcases HR.out with h | ⟨b, off, rfl, hbl, hc⟩
      · rw [h] at hlt; simp at hlt
      · have c1 := (hb.out.cell (p := ⟨b, off + k * 2, none⟩) hbl).trans (hc k hlt).1
        have c2 := (hb.out.cell (p := ⟨b, off + k * 2 + 1, none⟩) hbl).trans (hc k hlt).2
        have d1 := atK_w ha.out k (by rw [fill_len K k hk]; exact hlt)
        have d2 := atK_a ha.out k (by rw [fill_len K k hk]; exact hlt)
        have f1 := atK_fr ha.out (k * 2)
        have f2 := atK_fr ha.out (k * 2 + 1)
        obtain ⟨x, hx⟩ : ∃ x, x = K.getD k (0, 0) := ⟨_, rfl⟩
        rw [← hx] at c1 c2
        obtain ⟨x1, x2⟩ := x
        simp only at c1 c2
        generalize (((fill K k).getD k (0, 0)).1 : Int) = u1 at d1
        generalize ((fill K k).getD k (0, 0)).2 = u2 at d2
        have HX : Hid _ := hx
        have hki : (k : Int) < (K.length : Int) := by omega
        clear hc hx hmk
        go_wp2
        go_roundw
        case rel =>
          have hs := atK_set ha.out k x1 x2
          rw [HX.out, fill_succ K k hlt] at hs
          exact ⟨k + 1, by go_num, by omega, hs, (hb.out.setCell (Nat.le_refl _) _).setCell (Nat.le_refl _) _⟩
        case measure => simp [intOf]; omega
    · have e : k = K.length := by omega
      have ha' : atK wr w.heap.size 60 K := by have := ha.out; rw [e, fill_all] at this; exact this
      have htw : Two w.heap.size wr.heap.size w.heap.size K (List.replicate K.length ((0 : Nat), (0 : Int))) w (wr.alloc (.cells (kflat (List.replicate K.length ((0 : Nat), (0 : Int)))).toArray 60)) :=
        ⟨atK_alloc ha' _, heap_alloc_new wr _, by have := atK_lt ha'; omega, Nat.le_refl _, by have := atK_lt ha'; omega, hb.out.alloc (by have := atK_lt ha'; omega) _⟩
      have HTW : Hid _ := htw
      clear htw ha' e ha hb
      clear HR
      go_wp2
      go_loopw [6, 8, 9] (fun va vb vw wz => ∃ (ga gb wd : Nat) (A B : List Ky), va = .slice (some ⟨ga, 0, none⟩) K.length K.length ∧ vb = .slice (some ⟨gb, 0, none⟩) K.length K.length ∧ vw = .int .i64 wd ∧ 1 ≤ wd ∧ wd ≤ 2 * K.length + 1 ∧
          Hid (Runs (rk full) wd A K ∧ B.length = K.length ∧ Okl A ∧ Okl B) ∧ Hid (Two ga gb w.heap.size A B w wz)) (fun _ _ vw _ => 2 * K.length + 1 - (intOf vw).toNat)
      case atStart => exact ⟨_, _, 1, K, _, rfl, rfl, rfl, Nat.le_refl _, by omega, ⟨runs_one _ K, by simp, HOK.out, okl_zero _⟩, HTW⟩
      case round =>
        obtain ⟨ga, gb, wd, A, B, rfl, rfl, rfl, hw1, hw2, hruns, htw⟩ := hrel
        clear HTW
        by_cases hwl : wd < K.length
        · obtain ⟨hru, hBl, hoA, hoB⟩ := hruns.out
          have HRU : Hid _ := hru
          have HOA : Hid _ := hoA
          have hmz : Merged (rk full) wd 0 B K := merged_zero _ wd B K hBl
          have HMZ : Hid _ := hmz
          have HOB : Hid _ := hoB
          clear hruns hru hoA hoB hBl hmz hmk
          go_wp2
          go_loopw [10] (fun vl wy => ∃ (q lo : Nat) (B' : List Ky), vl = .int .i64 lo ∧ lo ≤ 3 * K.length ∧ Hid (lo = q * (2 * wd)) ∧ Hid (Merged (rk full) wd lo B' K ∧ Okl B') ∧ Hid (Two ga gb w.heap.size A B' w wy)) (fun vl _ => 3 * K.length - (intOf vl).toNat)
          case atStart => exact ⟨0, 0, B, rfl, Nat.zero_le _, by unfold Hid; omega, ⟨HMZ.out, HOB.out⟩, htw⟩
          case round =>
            obtain ⟨q, lo, B', rfl, hlo, hq, hmg, htw⟩ := hrel
            clear HMZ HOB
            by_cases hll : lo < K.length
            · have HMG : Hid _ := hmg.out.1
              have HOB : Hid _ := hmg.out.2
              have hAl : A.length = K.length := HRU.out.1
              have HAL : Hid _ := hAl
              have HQ : Hid _ := hq.out
              clear hmg hq hAl
              go_upto_if 51 with fail
              go_cut [11] from 39 to 107 (fun vm wx => ∃ m : Nat, vm = .int .i64 m ∧ lo ≤ m ∧ m ≤ K.length ∧ Hid (m = min (lo + wd) K.length) ∧ wr = wx)
              case first =>
                by_cases c1 : K.length < lo + wd
                · go_wp2_with fail
                  go_meet
                  case rel => exact ⟨K.length, rfl, by omega, by omega, by unfold Hid; omega, rfl⟩
                · go_wp2_with fail
                  go_meet
                  case rel => exact ⟨lo + wd, by go_num, by omega, by omega, by unfold Hid; omega, rfl⟩
              case rest =>
                obtain ⟨m, rfl, m1, m3', hmm, rfl⟩ := hcut
                go_upto_if 59 with fail
                go_cut [12] from 39 to 107 (fun vh wx => ∃ h : Nat, vh = .int .i64 h ∧ m ≤ h ∧ h ≤ K.length ∧ lo < h ∧ Hid (h = min (lo + 2 * wd) K.length) ∧ wr = wx)
                case first =>
                  by_cases c2 : K.length < lo + 2 * wd
                  · go_wp2_with fail
                    go_meet
                    case rel => exact ⟨K.length, rfl, by omega, by omega, by omega, by unfold Hid; omega, rfl⟩
                  · go_wp2_with fail
                    go_meet
                    case rel => exact ⟨lo + 2 * wd, by go_num, by have := hmm.out; omega, by omega, by omega, by unfold Hid; omega, rfl⟩
                case rest =>
                obtain ⟨h, rfl, m2, m3, m4, hhh, rfl⟩ := hcut
                have hmh : Hid (m = min (lo + wd) K.length ∧ h = min (lo + 2 * wd) K.length) := ⟨hmm.out, hhh.out⟩
                have hmd : Mid (rk full) A B' B' lo m h lo m lo := mid_start _ A B' lo m h (by rw [HAL.out, HMG.out.1]) (by omega) (by omega) (by rw [HAL.out]; omega)
                have HMD : Hid _ := hmd
                clear hmd
                go_wp2
                go_loopw [13, 14, 15] (fun vi vj vk wx => ∃ (i j k : Nat) (C : List Ky), vi = .int .i64 i ∧ vj = .int .i64 j ∧ vk = .int .i64 k ∧ lo ≤ i ∧ i ≤ m ∧ m ≤ j ∧ j ≤ h ∧ k ≤ h ∧ Hid (k = i + j - m) ∧
                    Hid (Mid (rk full) A B' C lo m h i j k ∧ Okl C) ∧ Hid (Two ga gb w.heap.size A C w wx)) (fun _ _ vk _ => h - (intOf vk).toNat)
                case atStart => exact ⟨lo, m, lo, B', rfl, rfl, rfl, Nat.le_refl _, by omega, Nat.le_refl _, by omega, by omega, (by unfold Hid; omega), ⟨HMD.out, HOB.out⟩, htw⟩
                case round =>
                  obtain ⟨i, j, k, C, rfl, rfl, rfl, hi1, hi2, hj1, hj2, hk2, hkk, hmd, htx⟩ := hrel
                  clear HMD
                  have hCl : C.length = K.length := by rw [hmd.out.1.len, HAL.out]
                  by_cases hkl : k < h
                  · have d1 := atK_w htx.out.b k (by rw [hCl]; omega)
                    have d2 := atK_a htx.out.b k (by rw [hCl]; omega)
                    generalize ((C.getD k (0, 0)).1 : Int) = u1 at d1
                    generalize (C.getD k (0, 0)).2 = u2 at d2
                    have f1 := atK_fr htx.out.b (k * 2)
                    have f2 := atK_fr htx.out.b (k * 2 + 1)
                    have nk : (k : Int) < (K.length : Int) := by omega
                    have nk2 : (k : Int) < (h : Int) := by omega
                    have hne := htx.out.ne
                    have hne' : gb ≠ ga := fun e => hne e.symm
                    have HCL : Hid _ := hCl
                    clear hCl
                    by_cases him : i < m
                    · have him1 : decide ((i : Int) < (m : Int)) = true := by simp only [decide_eq_true_eq]; omega
                      have him2 : decide (i < m) = true := by simp only [decide_eq_true_eq]; omega
                      have cy1 := atK_w htx.out.a i (by rw [HAL.out]; omega)
                      have cy2 := atK_a htx.out.a i (by rw [HAL.out]; omega)
                      have oy := okl_at HOA.out i (by rw [HAL.out]; omega)
                      obtain ⟨y, hy⟩ : ∃ y, y = A.getD i (0, 0) := ⟨_, rfl⟩
                      rw [← hy] at cy1 cy2 oy
                      obtain ⟨y1, y2⟩ := y
                      simp only at cy1 cy2
                      have Hy : Hid _ := hy
                      have Oy : Hid _ := oy
                      clear hy oy
                      have ny : (i : Int) < (K.length : Int) := by omega
                      by_cases hjh : j < h
                      · have cx1 := atK_w htx.out.a j (by rw [HAL.out]; omega)
                        have cx2 := atK_a htx.out.a j (by rw [HAL.out]; omega)
                        have ox := okl_at HOA.out j (by rw [HAL.out]; omega)
                        obtain ⟨x, hx⟩ : ∃ x, x = A.getD j (0, 0) := ⟨_, rfl⟩
                        rw [← hx] at cx1 cx2 ox
                        obtain ⟨x1, x2⟩ := x
                        simp only at cx1 cx2
                        have Hx : Hid _ := hx
                        have Ox : Hid _ := ox
                        clear hx ox
                        have nx : (j : Int) < (K.length : Int) := by omega
                        obtain ⟨r, hr⟩ : ∃ r, r = decide (rk full (x1, x2) < rk full (y1, y2)) := ⟨_, rfl⟩
                        have HRR : Hid _ := hr
                        clear hr
                        have hbz : ga < wr.heap.size := atK_lt htx.out.a
                        have hgz : gb < wr.heap.size := atK_lt htx.out.b
                        have hge : decide ((h : Int) ≤ (j : Int)) = false := by simp only [decide_eq_false_iff_not]; omega
                        have hge3 : decide (h ≤ j) = false := by simp only [decide_eq_false_iff_not]; omega
                        have hge2 : ¬ ((h : Int) ≤ (j : Int)) := by omega
                        go_wp2_with fail
                        go_region_held3 (fun w' => w'.cell? ⟨ga, j * 2, none⟩ = some (.int .u64 (x1 : Int)) ∧ w'.cell? ⟨ga, j * 2 + 1, none⟩ = some (.int .i64 x2) ∧ w'.cell? ⟨ga, i * 2, none⟩ = some (.int .u64 (y1 : Int)) ∧ w'.cell? ⟨ga, i * 2 + 1, none⟩ = some (.int .i64 y2)) (go_keep) ((go_at_call 33; refine (less_to x1 y1 x2 y2 full r Ox.out Oy.out HRR.out _).mono ?_; rintro e w' ⟨rfl, hbel⟩; have q0 := (hbel.cell (p := ⟨ga, j * 2, none⟩) hbz).trans cx1; have q1 := (hbel.cell (p := ⟨ga, j * 2 + 1, none⟩) hbz).trans cx2; have q2 := (hbel.cell (p := ⟨ga, i * 2, none⟩) hbz).trans cy1; have q3 := (hbel.cell (p := ⟨ga, i * 2 + 1, none⟩) hbz).trans cy2; have p1 := (hbel.cell (p := ⟨gb, k * 2, none⟩) hgz).trans d1; have p2 := (hbel.cell (p := ⟨gb, k * 2 + 1, none⟩) hgz).trans d2; have p3 := (hbel.frozen (p := ⟨gb, k * 2, none⟩) hgz).trans f1; have p4 := (hbel.frozen (p := ⟨gb, k * 2 + 1, none⟩) hgz).trans f2))
                        cases r
                        · have HLE : Hid (h ≤ j ∨ ¬ rk full (A.getD j (0, 0)) < rk full (A.getD i (0, 0))) := by
                            unfold Hid; right; rw [← Hx.out, ← Hy.out]; have := HRR.out; simpa using this.symm
                          go_wp2
                          go_roundw
                          case rel => exact ⟨i + 1, j, k + 1, C.set k (y1, y2), by go_num, rfl, by go_num, by omega, by omega, by omega, by omega, by omega, (by have := hkk.out; unfold Hid; omega), ⟨by rw [Hy.out]; exact hmd.out.1.left_ (rk full) (0, 0) him HLE.out, okl_set hmd.out.2 k _ Oy.out⟩, (htx.out.on (undrew hbel)).put k y1 y2⟩
                          case measure => simp [intOf]; omega
                        · have HLE : Hid (i = m ∨ rk full (A.getD j (0, 0)) < rk full (A.getD i (0, 0))) := by
                            unfold Hid; right; rw [← Hx.out, ← Hy.out]; have := HRR.out; simpa using this.symm
                          go_wp2
                          go_roundw
                          case rel => exact ⟨i, j + 1, k + 1, C.set k (x1, x2), rfl, by go_num, by go_num, by omega, by omega, by omega, by omega, by omega, (by have := hkk.out; unfold Hid; omega), ⟨by rw [Hx.out]; exact hmd.out.1.right_ (rk full) (0, 0) hjh HLE.out, okl_set hmd.out.2 k _ Ox.out⟩, (htx.out.on (undrew hbel)).put k x1 x2⟩
                          case measure => simp [intOf]; omega
                      · have hge : decide ((h : Int) ≤ (j : Int)) = true := by simp only [decide_eq_true_eq]; omega
                        have hge3 : decide (h ≤ j) = true := by simp only [decide_eq_true_eq]; omega
                        have HLE : Hid (h ≤ j ∨ ¬ rk full (A.getD j (0, 0)) < rk full (A.getD i (0, 0))) := by
                          unfold Hid; left; omega
                        go_wp2
                        go_quiet (fail)
                        go_wp2
                        go_roundw
                        case rel => exact ⟨i + 1, j, k + 1, C.set k (y1, y2), by go_num, rfl, by go_num, by omega, by omega, by omega, by omega, by omega, (by have := hkk.out; unfold Hid; omega), ⟨by rw [Hy.out]; exact hmd.out.1.left_ (rk full) (0, 0) him HLE.out, okl_set hmd.out.2 k _ Oy.out⟩, (htx.out.on (below_drewN (Below.refl _ _) _)).put k y1 y2⟩
                        case measure => simp [intOf]; omega
                    · have hjh : j < h := by have := hkk.out; omega
                      have him1 : decide ((i : Int) < (m : Int)) = false := by simp only [decide_eq_false_iff_not]; omega
                      have him2 : decide (i < m) = false := by simp only [decide_eq_false_iff_not]; omega
                      have cx1 := atK_w htx.out.a j (by rw [HAL.out]; omega)
                      have cx2 := atK_a htx.out.a j (by rw [HAL.out]; omega)
                      have ox := okl_at HOA.out j (by rw [HAL.out]; omega)
                      obtain ⟨x, hx⟩ : ∃ x, x = A.getD j (0, 0) := ⟨_, rfl⟩
                      rw [← hx] at cx1 cx2 ox
                      obtain ⟨x1, x2⟩ := x
                      simp only at cx1 cx2
                      have Hx : Hid _ := hx
                      have Ox : Hid _ := ox
                      clear hx ox
                      have nx : (j : Int) < (K.length : Int) := by omega
                      have HLE : Hid (i = m ∨ rk full (A.getD j (0, 0)) < rk full (A.getD i (0, 0))) := by
                        unfold Hid; left; omega
                      go_wp2
                      go_quiet (fail)
                      go_wp2
                      go_roundw
                      case rel => exact ⟨i, j + 1, k + 1, C.set k (x1, x2), rfl, by go_num, by go_num, by omega, by omega, by omega, by omega, by omega, (by have := hkk.out; unfold Hid; omega), ⟨by rw [Hx.out]; exact hmd.out.1.right_ (rk full) (0, 0) hjh HLE.out, okl_set hmd.out.2 k _ Ox.out⟩, (htx.out.on (below_drewN (Below.refl _ _) _)).put k x1 x2⟩
                      case measure => simp [intOf]; omega
                  · have hfin := mid_done (rk full) HRU.out HMG.out hmd.out.1 (by omega) HQ.out hll (by have := hmh.out; omega) (by have := hmh.out; omega)
                    have HFIN : Hid _ := hfin
                    have HOC : Hid _ := hmd.out.2
                    have HQ2 : Hid (lo + 2 * wd = (q + 1) * (2 * wd)) := by unfold Hid; rw [Nat.add_mul, Nat.one_mul, ← HQ.out]
                    clear hfin hmd
                    go_wp2
                    go_roundw
                    case rel => exact ⟨q + 1, lo + 2 * wd, C, by go_num, by omega, HQ2, ⟨HFIN.out, HOC.out⟩, htx⟩
                    case measure => simp [intOf]; omega
            · have hdone : Runs (rk full) (2 * wd) B' K := merged_done _ hmg.out.1 (by omega)
              have HD : Hid _ := hdone
              have HO2 : Hid _ := hmg.out.2
              have hAl : A.length = K.length := HRU.out.1
              have HAL : Hid _ := hAl
              clear hdone hmg hq hAl
              go_wp2
              go_roundw
              case rel => exact ⟨gb, ga, 2 * wd, B', A, rfl, rfl, by go_num, by omega, by omega, ⟨HD.out, HAL.out, HO2.out, HOA.out⟩, htw.out.swap⟩
              case measure => simp [intOf]; omega
        · have hss : SS (rk full) A K := runs_done _ hruns.out.1 (by omega)
          have HSS : Hid _ := hss
          clear hss hruns
          go_wp2
          go_ret
          exact ⟨ga, A, rfl, htw.out.a, HSS.out, htw.out.below⟩
end Go.Proofs.Qxb6603421a.SD
