import Derived.Test.Qxb6603421aSd1
namespace Go.Proofs.Qxb6603421a.SD
open Go.RowKit
set_option linter.unusedVariables false
set_option linter.unusedSimpArgs false

/-- A slice of keys that can be read: K are its elements. -/
def Rd (w : World) (ao : Option Addr) (K : List Ky) : Prop := K = [] ∨ ∃ b off, ao = some ⟨b, off, none⟩ ∧ b < w.heap.size ∧
  ∀ i, i < K.length → w.cell? ⟨b, off + i * 2, none⟩ = some (.int .u64 ((K.getD i (0, 0)).1 : Nat)) ∧ w.cell? ⟨b, off + i * 2 + 1, none⟩ = some (.int .i64 (K.getD i (0, 0)).2)
theorem Rd.of_at {w : World} {g : Nat} {T : TypeId} {L : List Ky} (h : atK w g T L) : Rd w (some ⟨g, 0, none⟩) L :=
  Or.inr ⟨g, 0, rfl, atK_lt h, fun i hi => by rw [Nat.zero_add]; exact ⟨atK_w h i hi, atK_a h i hi⟩⟩
theorem Rd.on {w w' : World} {ao : Option Addr} {K : List Ky} (h : Rd w ao K) (hb : Below w.heap.size w w') : Rd w' ao K := by
  rcases h with h | ⟨b, off, e, hlt, hc⟩
  · exact Or.inl h
  · exact Or.inr ⟨b, off, e, by have := hb.size; omega, fun i hi => ⟨(hb.cell (p := ⟨b, _, none⟩) hlt).trans (hc i hi).1, (hb.cell (p := ⟨b, _, none⟩) hlt).trans (hc i hi).2⟩⟩
def fill (K : List Ky) (k : Nat) : List Ky := K.take k ++ List.replicate (K.length - k) (0, 0)
theorem fill_len (K : List Ky) (k : Nat) (h : k ≤ K.length) : (fill K k).length = K.length := by simp [fill]; omega
theorem fill_succ (K : List Ky) (k : Nat) (h : k < K.length) : (fill K k).set k (K.getD k (0, 0)) = fill K (k + 1) := by
  unfold fill
  rw [List.set_append_right _ _ (by simp; omega), List.length_take, Nat.min_eq_left (by omega), Nat.sub_self, show K.length - k = (K.length - (k + 1)) + 1 from by omega, List.replicate_succ, List.set_cons_zero, List.take_succ_eq_append_getElem h, List.append_assoc]
  simp [h]
theorem fill_all (K : List Ky) : fill K K.length = K := by simp [fill]

theorem atK_alloc {w : World} {g : Nat} {T : TypeId} {L : List Ky} (h : atK w g T L) (o : Obj) : atK (w.alloc o) g T L := by
  unfold atK; rw [Below.heap_alloc w o g (atK_lt h)]; exact h
theorem far3 {wr : World} {b o N : Nat} {v : Value} (u1 u2 : Value) (o1 o2 : Nat) (ob : Obj) (h : wr.cell? ⟨b, o, none⟩ = some v) (hne : b ≠ N) :
    (((wr.setCell ⟨N, o1, none⟩ u1).setCell ⟨N, o2, none⟩ u2).alloc ob).drew.cell? ⟨b, o, none⟩ = some v := by
  have h1 : ((wr.setCell ⟨N, o1, none⟩ u1).setCell ⟨N, o2, none⟩ u2).cell? ⟨b, o, none⟩ = some v := by
    rw [World.cell?_setCell_far _ _ _ _ (by simpa using fun e => hne e.symm), World.cell?_setCell_far _ _ _ _ (by simpa using fun e => hne e.symm)]; exact h
  have h2 := World.cell?_alloc_some ((wr.setCell ⟨N, o1, none⟩ u1).setCell ⟨N, o2, none⟩ u2) ⟨b, o, none⟩ ob (by rw [h1]; rfl)
  show (((wr.setCell ⟨N, o1, none⟩ u1).setCell ⟨N, o2, none⟩ u2).alloc ob).cell? ⟨b, o, none⟩ = some v
  rw [h2, h1]

set_option maxHeartbeats 800000 in
theorem toCanon_any (ao : Option Addr) (cap : Nat) (K : List Ky) (w : World) (hl : K.length ≤ 1048576) (hr : Rd w ao K) :
    Calls Try.prog 11 #[.slice ao K.length cap] w fun e w' => e = .returned (.slice (some ⟨w.heap.size, 0, none⟩) K.length K.length) ∧ atK w' w.heap.size 57 K ∧ Below w.heap.size w w' := by
  have hmk := make24 K.length hl
  have h0 : atK (w.alloc (.cells (kflat (List.replicate K.length ((0 : Nat), (0 : Int)))).toArray 57)) w.heap.size 57 (fill K 0) := by
    have e : fill K 0 = List.replicate K.length ((0 : Nat), (0 : Int)) := by simp [fill]
    rw [e]; exact heap_alloc_new w _
  have H0 : Hid _ := h0
  have HR : Hid _ := hr
  clear h0 hr
  go_enter Try.func11, Try.ntmps11
  go_wp2
  go_loopw [4] (fun i wr => ∃ k : Nat, i = .int .i64 k ∧ k ≤ K.length ∧ Hid (atK wr w.heap.size 57 (fill K k)) ∧ Hid (Below w.heap.size w wr)) (fun i _ => K.length - (intOf i).toNat)
  case atStart => exact ⟨0, rfl, Nat.zero_le _, H0, (Below.refl _ _).alloc (Nat.le_refl _) _⟩
  case round =>
    obtain ⟨k, rfl, hk, ha, hb⟩ := hrel
    clear H0
    by_cases hlt : k < K.length
    · rcases HR.out with h | ⟨b, off, rfl, hbl, hc⟩
      · rw [h] at hlt; simp at hlt
      · have c1 := (hb.out.cell (p := ⟨b, off + k * 2, none⟩) hbl).trans (hc k hlt).1
        have c2 := (hb.out.cell (p := ⟨b, off + k * 2 + 1, none⟩) hbl).trans (hc k hlt).2
        have d1 := atK_w ha.out k (by rw [fill_len K k hk]; exact hlt)
        have d2 := atK_a ha.out k (by rw [fill_len K k hk]; exact hlt)
        have f1 := atK_fr ha.out (k * 2)
        have f2 := atK_fr ha.out (k * 2 + 1)
        have hsz := atK_lt ha.out
        obtain ⟨x, hx⟩ : ∃ x, x = K.getD k (0, 0) := ⟨_, rfl⟩
        rw [← hx] at c1 c2
        obtain ⟨x1, x2⟩ := x
        simp only at c1 c2
        generalize (((fill K k).getD k (0, 0)).1 : Int) = u1 at d1
        generalize ((fill K k).getD k (0, 0)).2 = u2 at d2
        have HX : Hid _ := hx
        have hki : (k : Int) < (K.length : Int) := by omega
        have hbn : b ≠ w.heap.size := by omega
        have hbr : b ≠ wr.heap.size := by omega
        have hwr : w.heap.size ≠ wr.heap.size := by omega
        have HC : Hid _ := hc
        clear hc hx hmk
        go_wp2_with fail
        go_region_held3 (fun w' => w'.cell? ⟨b, off + k * 2, none⟩ = some (.int .u64 (x1 : Int)) ∧ w'.cell? ⟨b, off + k * 2 + 1, none⟩ = some (.int .i64 x2)) ((first | with_reducible exact ⟨far3 _ _ _ _ _ c1 hbn, far3 _ _ _ _ _ c2 hbn⟩ | go_keep)) ((go_at_call 29; refine (mk_any _ _ _).mono ?_; rintro e w' ⟨rfl, rfl⟩))
        go_wp2
        go_roundw
        case rel =>
          have hs := atK_set ha.out k x1 x2
          rw [HX.out, fill_succ K k hlt] at hs
          exact ⟨k + 1, by go_num, by omega, atK_alloc hs _, (((hb.out.setCell (Nat.le_refl _) _).setCell (Nat.le_refl _) _).alloc (by simp [World.setCell]; omega) _).drew⟩
        case measure => simp [intOf]; omega
    · go_wp2
      go_ret
      have e : k = K.length := by omega
      refine ⟨rfl, ?_, hb.out⟩
      have := ha.out; rw [e, fill_all] at this; exact this
theorem far4 {wr : World} {b o N : Nat} {v : Value} (u1 u2 : Value) (o1 o2 : Nat) (oa ob : Obj) (h : wr.cell? ⟨b, o, none⟩ = some v) (hne : b ≠ N) :
    ((((wr.setCell ⟨N, o1, none⟩ u1).setCell ⟨N, o2, none⟩ u2).alloc oa).alloc ob).drew.cell? ⟨b, o, none⟩ = some v := by
  have h1 : (((wr.setCell ⟨N, o1, none⟩ u1).setCell ⟨N, o2, none⟩ u2).alloc oa).cell? ⟨b, o, none⟩ = some v := far3 u1 u2 o1 o2 oa h hne
  have h2 := World.cell?_alloc_some (((wr.setCell ⟨N, o1, none⟩ u1).setCell ⟨N, o2, none⟩ u2).alloc oa) ⟨b, o, none⟩ ob (by rw [h1]; rfl)
  show ((((wr.setCell ⟨N, o1, none⟩ u1).setCell ⟨N, o2, none⟩ u2).alloc oa).alloc ob).cell? ⟨b, o, none⟩ = some v
  rw [h2, h1]

set_option maxHeartbeats 800000 in
theorem fromCanon_any (ao : Option Addr) (cap : Nat) (K : List Ky) (w : World) (hl : K.length ≤ 1048576) (hr : Rd w ao K) :
    Calls Try.prog 13 #[.slice ao K.length cap] w fun e w' => e = .returned (.slice (some ⟨w.heap.size, 0, none⟩) K.length K.length) ∧ atK w' w.heap.size 60 K ∧ Below w.heap.size w w' := by
  have hmk := make22 K.length hl
  have h0 : atK (w.alloc (.cells (kflat (List.replicate K.length ((0 : Nat), (0 : Int)))).toArray 60)) w.heap.size 60 (fill K 0) := by
    have e : fill K 0 = List.replicate K.length ((0 : Nat), (0 : Int)) := by simp [fill]
    rw [e]; exact heap_alloc_new w _
  have H0 : Hid _ := h0
  have HR : Hid _ := hr
  clear h0 hr
  go_enter Try.func13, Try.ntmps13
  go_wp2
  go_loopw [4] (fun i wr => ∃ k : Nat, i = .int .i64 k ∧ k ≤ K.length ∧ Hid (atK wr w.heap.size 60 (fill K k)) ∧ Hid (Below w.heap.size w wr)) (fun i _ => K.length - (intOf i).toNat)
  case atStart => exact ⟨0, rfl, Nat.zero_le _, H0, (Below.refl _ _).alloc (Nat.le_refl _) _⟩
  case round =>
    obtain ⟨k, rfl, hk, ha, hb⟩ := hrel
    clear H0
    by_cases hlt : k < K.length
    · rcases HR.out with h | ⟨b, off, rfl, hbl, hc⟩
      · rw [h] at hlt; simp at hlt
      · have c1 := (hb.out.cell (p := ⟨b, off + k * 2, none⟩) hbl).trans (hc k hlt).1
        have c2 := (hb.out.cell (p := ⟨b, off + k * 2 + 1, none⟩) hbl).trans (hc k hlt).2
        have d1 := atK_w ha.out k (by rw [fill_len K k hk]; exact hlt)
        have d2 := atK_a ha.out k (by rw [fill_len K k hk]; exact hlt)
        have f1 := atK_fr ha.out (k * 2)
        have f2 := atK_fr ha.out (k * 2 + 1)
        have hsz := atK_lt ha.out
        obtain ⟨x, hx⟩ : ∃ x, x = K.getD k (0, 0) := ⟨_, rfl⟩
        rw [← hx] at c1 c2
        obtain ⟨x1, x2⟩ := x
        simp only at c1 c2
        generalize (((fill K k).getD k (0, 0)).1 : Int) = u1 at d1
        generalize ((fill K k).getD k (0, 0)).2 = u2 at d2
        have HX : Hid _ := hx
        have hki : (k : Int) < (K.length : Int) := by omega
        have hbn : b ≠ w.heap.size := by omega
        have hbr : b ≠ wr.heap.size := by omega
        have hwr : w.heap.size ≠ wr.heap.size := by omega
        have HC : Hid _ := hc
        clear hc hx hmk
        go_wp2_with fail
        have hbr2 : b ≠ wr.heap.size + 1 := by omega
        go_region_held3 (fun w' => w'.cell? ⟨b, off + k * 2, none⟩ = some (.int .u64 (x1 : Int)) ∧ w'.cell? ⟨b, off + k * 2 + 1, none⟩ = some (.int .i64 x2)) ((first | with_reducible exact ⟨far4 _ _ _ _ _ _ c1 hbn, far4 _ _ _ _ _ _ c2 hbn⟩ | go_keep)) ((first | (go_at_call 31; refine (kw_any _ _ _).mono ?_; rintro e w' ⟨rfl, rfl⟩) | (go_at_call 32; refine (kat_any _ _ _).mono ?_; rintro e w' ⟨rfl, rfl⟩)))
        go_wp2
        go_roundw
        case rel =>
          have hs := atK_set ha.out k x1 x2
          rw [HX.out, fill_succ K k hlt] at hs
          exact ⟨k + 1, by go_num, by omega, atK_alloc (atK_alloc hs _) _, ((((hb.out.setCell (Nat.le_refl _) _).setCell (Nat.le_refl _) _).alloc (by simp [World.setCell]; omega) _).alloc (by simp [World.setCell]; omega) _).drew⟩
        case measure => simp [intOf]; omega
    · go_wp2
      go_ret
      have e : k = K.length := by omega
      refine ⟨rfl, ?_, hb.out⟩
      have := ha.out; rw [e, fill_all] at this; exact this
end Go.Proofs.Qxb6603421a.SD
