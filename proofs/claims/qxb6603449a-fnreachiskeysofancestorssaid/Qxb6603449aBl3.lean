import Derived.Test.Qxb6603449aBl2
namespace Go.Proofs.Qxb6603449a.BL
open Go.RowKit
set_option linter.unusedVariables false
set_option linter.unusedSimpArgs false

/-! ### A row of one-cell values in memory -/
abbrev atR (w : World) (g : Nat) (T : TypeId) (V : List Value) : Prop := w.heap[g]? = some (.cells V.toArray T (0, 0))
section
variable {w : World} {g : Nat} {T : TypeId} {V : List Value}
theorem atR_lt (h : atR w g T V) : g < w.heap.size := by
  by_cases hx : g < w.heap.size
  · exact hx
  · unfold atR at h; rw [Array.getElem?_eq_none (by omega)] at h; cases h
theorem atR_at (h : atR w g T V) (k : Nat) (v : Value) (hk : V[k]? = some v) : w.cell? ⟨g, k, none⟩ = some v := by
  rw [cell_of_row w g _ _ T (0, 0) h]; simpa using hk
theorem atR_fr (h : atR w g T V) (j : Nat) : w.frozen? ⟨g, j, none⟩ = false := frozen_of_row w g j _ T h
theorem atR_set (h : atR w g T V) (k : Nat) (v : Value) : atR (w.setCell ⟨g, k, none⟩ v) g T (V.set k v) := by
  unfold atR; rw [heap_setCell_same w g _ _ T _ h]; simp
theorem atR_on {w' : World} (h : atR w g T V) (hb : Below w.heap.size w w') : atR w' g T V := (hb.block _ (atR_lt h)).trans h
end
def fillv (V : List Value) (z : Value) (k : Nat) : List Value := V.take k ++ List.replicate (V.length - k) z
theorem fillv_len (V : List Value) (z : Value) (k : Nat) (h : k ≤ V.length) : (fillv V z k).length = V.length := by simp [fillv]; omega
theorem fillv_succ (V : List Value) (z : Value) (k : Nat) (v : Value) (h : V[k]? = some v) : (fillv V z k).set k v = fillv V z (k + 1) := by
  obtain ⟨hl, rfl⟩ := List.getElem?_eq_some_iff.1 h
  unfold fillv
  rw [List.set_append_right _ _ (by simp; omega), List.length_take, Nat.min_eq_left (by omega), Nat.sub_self, show V.length - k = (V.length - (k + 1)) + 1 from by omega, List.replicate_succ, List.set_cons_zero, List.take_succ_eq_append_getElem hl, List.append_assoc]
  rfl
theorem fillv_all (V : List Value) (z : Value) : fillv V z V.length = V := by simp [fillv]
theorem fillv_zero (V : List Value) (z : Value) : fillv V z 0 = List.replicate V.length z := by simp [fillv]
theorem fillv_at (V : List Value) (z : Value) (k : Nat) (h : k < V.length) : (fillv V z k)[k]? = some z := by
  unfold fillv
  rw [List.getElem?_append_right (by simp; omega), List.length_take, Nat.min_eq_left (by omega), Nat.sub_self, List.getElem?_replicate, if_pos (by omega)]
theorem made1 (z : Value) (n : Nat) : madeCells #[z] (n * 1) = (List.replicate n z).toArray := by
  apply Array.ext_getElem?
  intro j
  by_cases hj : j < n
  · have h1 : (madeCells #[z] (n * 1))[j]? = some (#[z][j % 1]!) := by unfold madeCells; simp [hj]
    rw [h1]; simp [hj, Nat.mod_one]
  · rw [Array.getElem?_eq_none (by rw [size_madeCells]; omega), Array.getElem?_eq_none (by simp; omega)]
theorem info9 : (Try.prog.info? 9).map (fun i => (i.zero, i.size, i.bytes)) = some (some (.string ByteArray.empty), 1, 16) := by kernel_rfl
theorem info24 : (Try.prog.info? 24).map (fun i => (i.zero, i.size, i.bytes)) = some (some (.slice none 0 0), 1, 24) := by kernel_rfl
theorem info4 : (Try.prog.info? 4).map (fun i => (i.zero, i.size, i.bytes)) = some (some (.bool false), 1, 1) := by kernel_rfl
theorem mk24 (n : Nat) (hn : n ≤ 1048576) (w : World) : (Instr.makeSlice 24 (.int .i64 n) (.int .i64 n)).run Try.prog w = .ok (.slice (some ⟨w.heap.size, 0, none⟩) n n) (w.alloc (.cells (List.replicate n (.string ByteArray.empty)).toArray 9)) := by
  obtain ⟨i0, hi, hz0, hz1, hz2⟩ := info_parts info9
  have := run_make w 24 9 i0 _ Try.underlying24 hi hz0 .i64 .i64 n n (by omega) (Int.le_refl _) (by rw [hz2]; omega) (by omega)
  rw [this, ← made1, hz1]
  rfl
theorem mk25 (n : Nat) (hn : n ≤ 1048576) (w : World) : (Instr.makeSlice 25 (.int .i64 n) (.int .i64 n)).run Try.prog w = .ok (.slice (some ⟨w.heap.size, 0, none⟩) n n) (w.alloc (.cells (List.replicate n (.slice none 0 0)).toArray 24)) := by
  obtain ⟨i0, hi, hz0, hz1, hz2⟩ := info_parts info24
  have := run_make w 25 24 i0 _ Try.underlying25 hi hz0 .i64 .i64 n n (by omega) (Int.le_refl _) (by rw [hz2]; omega) (by omega)
  rw [this, ← made1, hz1]
  rfl
theorem mk62 (n : Nat) (hn : n ≤ 1048576) (w : World) : (Instr.makeSlice 62 (.int .i64 n) (.int .i64 n)).run Try.prog w = .ok (.slice (some ⟨w.heap.size, 0, none⟩) n n) (w.alloc (.cells (List.replicate n (.bool false)).toArray 4)) := by
  obtain ⟨i0, hi, hz0, hz1, hz2⟩ := info_parts info4
  have := run_make w 62 4 i0 _ Try.underlying62 hi hz0 .i64 .i64 n n (by omega) (Int.le_refl _) (by rw [hz2]; omega) (by omega)
  rw [this, ← made1, hz1]
  rfl

/-! ### cloneStrings -/
/-- .. from block B on. -/
def SRd (B : Nat) (w : World) (ao : Option Addr) (S : List St) : Prop := S = [] ∨ ∃ b off, ao = some ⟨b, off, none⟩ ∧ B ≤ b ∧ b < w.heap.size ∧ ∀ i, i < S.length → w.cell? ⟨b, off + i, none⟩ = some (.string (S.getD i ByteArray.empty))
theorem SRd.rd {B : Nat} {w : World} {ao : Option Addr} {S : List St} (h : SRd B w ao S) : StrRd w ao S := by
  rcases h with h | ⟨b, off, e, _, hlt, hc⟩
  · exact Or.inl h
  · exact Or.inr ⟨b, off, e, hlt, hc⟩
theorem SRd.on {B : Nat} {w w' : World} {ao : Option Addr} {S : List St} (h : SRd B w ao S) (hb : Below w.heap.size w w') : SRd B w' ao S := by
  rcases h with h | ⟨b, off, e, hB, hlt, hc⟩
  · exact Or.inl h
  · exact Or.inr ⟨b, off, e, hB, by have := hb.size; omega, fun i hi => (hb.cell (p := ⟨b, _, none⟩) hlt).trans (hc i hi)⟩
theorem SRd.set {B : Nat} {w : World} {ao : Option Addr} {S : List St} (h : SRd B w ao S) (g k : Nat) (v : Value) (hg : g < B) : SRd B (w.setCell ⟨g, k, none⟩ v) ao S := by
  rcases h with h | ⟨b, off, e, hB, hlt, hc⟩
  · exact Or.inl h
  · refine Or.inr ⟨b, off, e, hB, by simpa using hlt, fun i hi => ?_⟩
    rw [World.cell?_setCell_far _ _ _ _ (by simp only; omega)]; exact hc i hi
theorem SRd.mono {B C : Nat} {w : World} {ao : Option Addr} {S : List St} (h : SRd B w ao S) (hC : C ≤ B) : SRd C w ao S := by
  rcases h with h | ⟨b, off, e, hB, hlt, hc⟩
  · exact Or.inl h
  · exact Or.inr ⟨b, off, e, by omega, hlt, hc⟩
theorem eq_nil (t e : TypeId) (h : Try.prog.underlying t = some (.slice e)) (a : Option Addr) (n c : Nat) (w : World) : (binOp .eql t (.slice a n c) (.slice none 0 0)).run Try.prog w = .ok (.bool a.isNone) w := by
  have hd : ∀ d : Nat, (Op.equalIn (d + 1) t (.slice a n c) (.slice none 0 0)).run Try.prog w = .ok a.isNone w := fun d => by cases a <;> simp [Op.equalIn, run_underlying h]
  simp only [binOp]
  simp [Op.equal, Op.maxDepth, hd 9999]
def ClPost (n : Nat) (S : List St) (w : World) (e : Ending) (w' : World) : Prop := ∃ ao c, e = .returned (.slice ao n c) ∧ SRd w.heap.size w' ao S ∧ (ao = none → n = 0 ∧ c = 0) ∧ Below w.heap.size w w'
theorem clone_nil (w : World) : Calls Try.prog 14 #[.slice none 0 0] w fun e w' => ClPost 0 [] w e w' := by
  have hnil : ∀ w, (binOp .eql 24 (.slice none 0 0) (.slice none 0 0)).run Try.prog w = .ok (.bool true) w := eq_nil 24 9 Try.underlying24 none 0 0
  go_enter Try.func14, Try.ntmps14
  go_wp2
  go_ret
  exact ⟨none, 0, rfl, Or.inl rfl, fun _ => ⟨rfl, rfl⟩, Below.refl _ _⟩
set_option maxHeartbeats 800000 in
theorem clone_some (a : Addr) (n cap : Nat) (S : List St) (w : World) (hS : S.length = n) (hn : n ≤ 1048576) (hr : StrRd w (some a) S) :
    Calls Try.prog 14 #[.slice (some a) n cap] w fun e w' => ClPost n S w e w' := by
  have hmk := mk24 n hn
  obtain ⟨V, hV⟩ : ∃ V, V = S.map Value.string := ⟨_, rfl⟩
  have hVl : V.length = n := by rw [hV]; simp [hS]
  have h0 : atR (w.alloc (.cells (List.replicate n (.string ByteArray.empty)).toArray 9)) w.heap.size 9 (fillv V (.string ByteArray.empty) 0) := by
    rw [fillv_zero, hVl]; exact heap_alloc_new w _
  have H0 : Hid _ := h0
  have HR : Hid (StrRd w (some a) S) := hr
  have HS : Hid _ := hS
  have HV : Hid _ := hV
  have HVL : Hid _ := hVl
  clear h0 hr hS hV hVl
  have hnil : ∀ w, (binOp .eql 24 (.slice (some a) n cap) (.slice none 0 0)).run Try.prog w = .ok (.bool false) w := eq_nil 24 9 Try.underlying24 (some a) n cap
  go_enter Try.func14, Try.ntmps14
  go_wp2
  go_loopw [4] (fun i wr => ∃ k : Nat, i = .int .i64 k ∧ k ≤ n ∧ Hid (atR wr w.heap.size 9 (fillv V (.string ByteArray.empty) k)) ∧ Hid (Below w.heap.size w wr)) (fun i _ => n - (intOf i).toNat)
  case atStart => exact ⟨0, rfl, Nat.zero_le _, H0, (Below.refl _ _).alloc (Nat.le_refl _) _⟩
  case round =>
    obtain ⟨k, rfl, hk, ha, hb⟩ := hrel
    clear H0
    by_cases hlt : k < n
    · obtain ⟨b, off, hao, hbl, hc⟩ := HR.out.at_ (i := k) (by rw [HS.out]; exact hlt)
      obtain rfl : a = ⟨b, off, none⟩ := by injection hao
      have c1 := (hb.out.cell (p := ⟨b, off + k, none⟩) hbl).trans hc
      have d1 := atR_at ha.out k _ (fillv_at V _ k (by rw [HVL.out]; exact hlt))
      have f1 := atR_fr ha.out k
      obtain ⟨s, hs⟩ : ∃ s, s = S.getD k ByteArray.empty := ⟨_, rfl⟩
      rw [← hs] at c1
      have HSS : Hid _ := hs
      have hki : (k : Int) < (n : Int) := by omega
      clear hs hc hao hmk
      go_wp2
      go_roundw
      case rel =>
        have hs := atR_set ha.out k (.string s)
        rw [fillv_succ V _ k (.string s) (by rw [HV.out, HSS.out]; simp [show k < S.length by have := HS.out; omega])] at hs
        exact ⟨k + 1, by go_num, by omega, hs, hb.out.setCell (Nat.le_refl _) _⟩
      case measure => simp [intOf]; omega
    · have e : k = n := by omega
      have ha' : Hid (atR wr w.heap.size 9 V) := by have := ha.out; rw [e, ← HVL.out, fillv_all] at this; exact this
      clear e ha
      have hki : ¬ (k : Int) < (n : Int) := by omega
      go_wp2
      go_ret
      refine ⟨some ⟨w.heap.size, 0, none⟩, n, rfl, Or.inr ⟨w.heap.size, 0, rfl, Nat.le_refl _, atR_lt ha'.out, fun i hi => ?_⟩, (fun h => by cases h), hb.out⟩
      rw [Nat.zero_add]
      exact atR_at ha'.out i _ (by rw [HV.out]; simp [hi])
theorem clone_any (ao : Option Addr) (n cap : Nat) (S : List St) (w : World) (hS : S.length = n) (hn : n ≤ 1048576) (h0 : ao = none → n = 0 ∧ cap = 0) (hr : StrRd w ao S) :
    Calls Try.prog 14 #[.slice ao n cap] w fun e w' => ClPost n S w e w' := by
  cases ao with
  | none =>
    obtain ⟨rfl, rfl⟩ := h0 rfl
    obtain rfl : S = [] := List.eq_nil_of_length_eq_zero hS
    exact clone_nil w
  | some a => exact clone_some a n cap S w hS hn hr
end Go.Proofs.Qxb6603449a.BL
