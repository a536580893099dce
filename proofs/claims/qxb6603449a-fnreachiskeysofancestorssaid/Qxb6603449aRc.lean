import Derived.Test.Qxb6603449aRb
namespace Go.Proofs.Qxb6603449a.BL
open Go.RowKit Go.ChangeMaps Go.MapKept
set_option linter.unusedVariables false
set_option linter.unusedSimpArgs false

/-! ### cloneInt32s, cloneEdges -/
theorem info21 : (Try.prog.info? 21).map (fun i => (i.zero, i.size, i.bytes)) = some (some (.int .i32 0), 1, 4) := by kernel_rfl
theorem info63 : (Try.prog.info? 63).map (fun i => (i.zero, i.size, i.bytes)) = some (some (.agg #[.string ByteArray.empty, .string ByteArray.empty]), 2, 32) := by kernel_rfl
theorem mk34 (n : Nat) (hn : n ≤ 1048576) (w : World) : (Instr.makeSlice 34 (.int .i64 n) (.int .i64 n)).run Try.prog w = .ok (.slice (some ⟨w.heap.size, 0, none⟩) n n) (w.alloc (.cells (List.replicate n (.int .i32 0)).toArray 21)) := by
  obtain ⟨i0, hi, hz0, hz1, hz2⟩ := info_parts info21
  have := run_make w 34 21 i0 _ Try.underlying34 hi hz0 .i64 .i64 n n (by omega) (Int.le_refl _) (by rw [hz2]; omega) (by omega)
  rw [this, ← made1, hz1]
  rfl
theorem made2 (z : Value) (n : Nat) : madeCells #[z, z] (n * 2) = (List.replicate (n * 2) z).toArray := by
  apply Array.ext_getElem?
  intro j
  by_cases hj : j < n * 2
  · have h1 : (madeCells #[z, z] (n * 2))[j]? = some (#[z, z][j % 2]!) := by unfold madeCells; simp [hj]
    rw [h1]
    have : j % 2 = 0 ∨ j % 2 = 1 := by omega
    rcases this with c | c <;> simp [c, hj]
  · rw [Array.getElem?_eq_none (by rw [size_madeCells]; omega), Array.getElem?_eq_none (by simp; omega)]
theorem mk33 (n : Nat) (hn : n ≤ 1048576) (w : World) : (Instr.makeSlice 33 (.int .i64 n) (.int .i64 n)).run Try.prog w = .ok (.slice (some ⟨w.heap.size, 0, none⟩) n n) (w.alloc (.cells (List.replicate (n * 2) (.string ByteArray.empty)).toArray 63)) := by
  obtain ⟨i0, hi, hz0, hz1, hz2⟩ := info_parts info63
  have := run_make w 33 63 i0 _ Try.underlying33 hi hz0 .i64 .i64 n n (by omega) (Int.le_refl _) (by rw [hz2]; omega) (by omega)
  rw [this, ← made2, hz1]
  rfl
def CiPost (n : Nat) (Z : List Int) (w : World) (e : Ending) (w' : World) : Prop := ∃ ao c, e = .returned (.slice ao n c) ∧ IntRd w' ao Z ∧ (ao = none → n = 0 ∧ c = 0) ∧ Below w.heap.size w w'
def CePost (n : Nat) (E : Ed) (w : World) (e : Ending) (w' : World) : Prop := ∃ ao c, e = .returned (.slice ao n c) ∧ EdRd w' ao E ∧ (ao = none → n = 0 ∧ c = 0) ∧ Below w.heap.size w w'
set_option maxHeartbeats 800000 in
theorem cloneI_some (a : Addr) (n cap : Nat) (S : List Int) (w : World) (hS : S.length = n) (hn : n ≤ 1048576) (hr : IntRd w (some a) S) :
    Calls Try.prog 22 #[.slice (some a) n cap] w fun e w' => CiPost n S w e w' := by
  have hmk := mk34 n hn
  obtain ⟨V, hV⟩ : ∃ V, V = S.map (Value.int .i32) := ⟨_, rfl⟩
  have hVl : V.length = n := by rw [hV]; simp [hS]
  have h0 : atR (w.alloc (.cells (List.replicate n (.int .i32 0)).toArray 21)) w.heap.size 21 (fillv V (.int .i32 0) 0) := by
    rw [fillv_zero, hVl]; exact heap_alloc_new w _
  have H0 : Hid _ := h0
  have HR : Hid (IntRd w (some a) S) := hr
  have HS : Hid _ := hS
  have HV : Hid _ := hV
  have HVL : Hid _ := hVl
  clear h0 hr hS hV hVl
  have hnil : ∀ w, (binOp .eql 34 (.slice (some a) n cap) (.slice none 0 0)).run Try.prog w = .ok (.bool false) w := eq_nil 34 21 Try.underlying34 (some a) n cap
  go_enter Try.func22, Try.ntmps22
  go_wp2
  go_loopw [4] (fun i wr => ∃ k : Nat, i = .int .i64 k ∧ k ≤ n ∧ Hid (atR wr w.heap.size 21 (fillv V (.int .i32 0) k)) ∧ Hid (Below w.heap.size w wr)) (fun i _ => n - (intOf i).toNat)
  case atStart => exact ⟨0, rfl, Nat.zero_le _, H0, (Below.refl _ _).alloc (Nat.le_refl _) _⟩
  case round =>
    obtain ⟨k, rfl, hk, ha, hb⟩ := hrel
    clear H0
    by_cases hlt : k < n
    · obtain ⟨b, off, hao, hbl, hc⟩ := HR.out.at_ (i := k) (by rw [HS.out]; exact hlt)
      obtain rfl : a = ⟨b, off, none⟩ := by injection hao
      have c1 := (hb.out.cell (p := ⟨b, off + k, none⟩) hbl).trans hc
      have d1 := atR_at ha.out k _ (fillv_at V _ k (by rw [HVL.out]; exact hlt))
      have f1 := atR_fr ha.out k
      obtain ⟨s, hs⟩ : ∃ s, s = S.getD k 0 := ⟨_, rfl⟩
      rw [← hs] at c1
      have HSS : Hid _ := hs
      have hki : (k : Int) < (n : Int) := by omega
      clear hs hc hao hmk
      go_wp2
      go_roundw
      case rel =>
        have hs := atR_set ha.out k (.int .i32 s)
        rw [fillv_succ V _ k (.int .i32 s) (by rw [HV.out, HSS.out]; simp [show k < S.length by have := HS.out; omega])] at hs
        exact ⟨k + 1, by go_num, by omega, hs, hb.out.setCell (Nat.le_refl _) _⟩
      case measure => simp [intOf]; omega
    · have e : k = n := by omega
      have ha' : Hid (atR wr w.heap.size 21 V) := by have := ha.out; rw [e, ← HVL.out, fillv_all] at this; exact this
      clear e ha
      have hki : ¬ (k : Int) < (n : Int) := by omega
      go_wp2
      go_ret
      refine ⟨some ⟨w.heap.size, 0, none⟩, n, rfl, Or.inr ⟨w.heap.size, 0, rfl, atR_lt ha'.out, fun i hi => ?_⟩, (fun h => by cases h), hb.out⟩
      rw [Nat.zero_add]
      exact atR_at ha'.out i _ (by rw [HV.out]; simp [hi])
theorem cloneI_any (ao : Option Addr) (n cap : Nat) (S : List Int) (w : World) (hS : S.length = n) (hn : n ≤ 1048576) (h0 : ao = none → n = 0 ∧ cap = 0) (hr : IntRd w ao S) :
    Calls Try.prog 22 #[.slice ao n cap] w fun e w' => CiPost n S w e w' := by
  cases ao with
  | none =>
    obtain ⟨rfl, rfl⟩ := h0 rfl
    obtain rfl : S = [] := List.eq_nil_of_length_eq_zero hS
    have hnil : ∀ w, (binOp .eql 34 (.slice none 0 0) (.slice none 0 0)).run Try.prog w = .ok (.bool true) w := eq_nil 34 21 Try.underlying34 none 0 0
    go_enter Try.func22, Try.ntmps22
    go_wp2
    go_ret
    exact ⟨none, 0, rfl, Or.inl rfl, fun _ => ⟨rfl, rfl⟩, Below.refl _ _⟩
  | some a => exact cloneI_some a n cap S w hS hn hr

def edc (E : Ed) : List Value := (List.range E.length).flatMap fun i => [.string (ek E i), .string (eg E i)]
theorem flat_len {α : Type} (C : α → List Value) (sz : Nat) (hC : ∀ i, (C i).length = sz) (l : List α) : (l.flatMap C).length = l.length * sz := by
  induction l with
  | nil => simp
  | cons a l ih => rw [List.flatMap_cons, List.length_append, ih, hC, List.length_cons, Nat.succ_mul]; omega
theorem edc_len (E : Ed) : (edc E).length = E.length * 2 := by
  unfold edc
  rw [flat_len _ 2 (fun _ => rfl)]
  simp
theorem edc_at (E : Ed) (i r : Nat) (hi : i < E.length) (hr : r < 2) : (edc E)[i * 2 + r]? = ([.string (ek E i), .string (eg E i)] : List Value)[r]? := by
  unfold edc
  rw [flat_at (fun i => [.string (ek E i), .string (eg E i)]) 2 (fun _ => rfl) _ i r (by simpa using hi) hr]
  simp [List.getD_eq_getElem?_getD, hi]
set_option maxHeartbeats 800000 in
theorem cloneE_some (a : Addr) (n cap : Nat) (S : Ed) (w : World) (hS : S.length = n) (hn : n ≤ 1048576) (hr : EdRd w (some a) S) :
    Calls Try.prog 21 #[.slice (some a) n cap] w fun e w' => CePost n S w e w' := by
  have hmk := mk33 n hn
  obtain ⟨V, hV⟩ : ∃ V, V = edc S := ⟨_, rfl⟩
  have hVl : V.length = n * 2 := by rw [hV, edc_len, hS]
  have h0 : atR (w.alloc (.cells (List.replicate (n * 2) (.string ByteArray.empty)).toArray 63)) w.heap.size 63 (fillv V (.string ByteArray.empty) (0 * 2)) := by
    rw [Nat.zero_mul, fillv_zero, hVl]; exact heap_alloc_new w _
  have H0 : Hid _ := h0
  have HR : Hid (EdRd w (some a) S) := hr
  have HS : Hid _ := hS
  have HV : Hid _ := hV
  have HVL : Hid _ := hVl
  clear h0 hr hS hV hVl
  have hnil : ∀ w, (binOp .eql 33 (.slice (some a) n cap) (.slice none 0 0)).run Try.prog w = .ok (.bool false) w := eq_nil 33 63 Try.underlying33 (some a) n cap
  go_enter Try.func21, Try.ntmps21
  go_wp2
  go_loopw [4] (fun i wr => ∃ k : Nat, i = .int .i64 k ∧ k ≤ n ∧ Hid (atR wr w.heap.size 63 (fillv V (.string ByteArray.empty) (k * 2))) ∧ Hid (Below w.heap.size w wr)) (fun i _ => n - (intOf i).toNat)
  case atStart => exact ⟨0, rfl, Nat.zero_le _, H0, (Below.refl _ _).alloc (Nat.le_refl _) _⟩
  case round =>
    obtain ⟨k, rfl, hk, ha, hb⟩ := hrel
    clear H0
    by_cases hlt : k < n
    · obtain ⟨b, off, hao, hbl, hc, hc'⟩ := HR.out.at_ (i := k) (by rw [HS.out]; exact hlt)
      obtain rfl : a = ⟨b, off, none⟩ := by injection hao
      have c1 := (hb.out.cell (p := ⟨b, off + k * 2, none⟩) hbl).trans hc
      have c2 := (hb.out.cell (p := ⟨b, off + k * 2 + 1, none⟩) hbl).trans hc'
      have hlv : (fillv V (.string ByteArray.empty) (k * 2)).length = n * 2 := by rw [fillv_len _ _ _ (by rw [HVL.out]; omega), HVL.out]
      have d1 := atR_at ha.out (k * 2) _ (List.getElem?_eq_getElem (by rw [hlv]; omega))
      have d2 := atR_at ha.out (k * 2 + 1) _ (List.getElem?_eq_getElem (by rw [hlv]; omega))
      generalize (fillv V (.string ByteArray.empty) (k * 2))[k * 2]'(by rw [hlv]; omega) = z1 at d1
      generalize (fillv V (.string ByteArray.empty) (k * 2))[k * 2 + 1]'(by rw [hlv]; omega) = z2 at d2
      have f1 := atR_fr ha.out (k * 2)
      have f2 := atR_fr ha.out (k * 2 + 1)
      obtain ⟨s, hs⟩ : ∃ s, s = ek S k := ⟨_, rfl⟩
      obtain ⟨t, ht⟩ : ∃ t, t = eg S k := ⟨_, rfl⟩
      rw [← hs] at c1
      rw [← ht] at c2
      have HSS : Hid _ := hs
      have HTT : Hid _ := ht
      have hki : (k : Int) < (n : Int) := by omega
      clear hs ht hc hc' hao hmk hlv
      go_wp2
      go_roundw
      case rel =>
        have hs := atR_set (atR_set ha.out (k * 2) (.string s)) (k * 2 + 1) (.string t)
        have g1 := edc_at S k 0 (by rw [HS.out]; exact hlt) (by omega)
        have g2 := edc_at S k 1 (by rw [HS.out]; exact hlt) (by omega)
        rw [← HV.out] at g1 g2
        rw [fillv_succ V _ (k * 2) (.string s) (by rw [Nat.add_zero] at g1; rw [g1, HSS.out]; rfl), fillv_succ V _ (k * 2 + 1) (.string t) (by rw [g2, HTT.out]; rfl), show k * 2 + 1 + 1 = (k + 1) * 2 from by omega] at hs
        exact ⟨k + 1, by go_num, by omega, hs, (hb.out.setCell (Nat.le_refl _) _).setCell (Nat.le_refl _) _⟩
      case measure => simp [intOf]; omega
    · have e : k = n := by omega
      have ha' : Hid (atR wr w.heap.size 63 V) := by have := ha.out; rw [e, ← HVL.out, fillv_all] at this; exact this
      clear e ha
      have hki : ¬ (k : Int) < (n : Int) := by omega
      go_wp2
      go_ret
      refine ⟨some ⟨w.heap.size, 0, none⟩, n, rfl, Or.inr ⟨w.heap.size, 0, rfl, atR_lt ha'.out, fun i hi => ?_⟩, (fun h => by cases h), hb.out⟩
      rw [Nat.zero_add]
      refine ⟨atR_at ha'.out _ _ ?_, atR_at ha'.out _ _ ?_⟩
      · have := edc_at S i 0 hi (by omega); rw [Nat.add_zero] at this; rw [HV.out, this]; rfl
      · have := edc_at S i 1 hi (by omega); rw [HV.out, this]; rfl
theorem cloneE_any (ao : Option Addr) (n cap : Nat) (S : Ed) (w : World) (hS : S.length = n) (hn : n ≤ 1048576) (h0 : ao = none → n = 0 ∧ cap = 0) (hr : EdRd w ao S) :
    Calls Try.prog 21 #[.slice ao n cap] w fun e w' => CePost n S w e w' := by
  cases ao with
  | none =>
    obtain ⟨rfl, rfl⟩ := h0 rfl
    obtain rfl : S = [] := List.eq_nil_of_length_eq_zero hS
    have hnil : ∀ w, (binOp .eql 33 (.slice none 0 0) (.slice none 0 0)).run Try.prog w = .ok (.bool true) w := eq_nil 33 63 Try.underlying33 none 0 0
    go_enter Try.func21, Try.ntmps21
    go_wp2
    go_ret
    exact ⟨none, 0, rfl, Or.inl rfl, fun _ => ⟨rfl, rfl⟩, Below.refl _ _⟩
  | some a => exact cloneE_some a n cap S w hS hn hr
end Go.Proofs.Qxb6603449a.BL
