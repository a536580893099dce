import Derived.Test.Qxb6603449aBl3
namespace Go.Proofs.Qxb6603449a.BL
open Go.RowKit
set_option linter.unusedVariables false
set_option linter.unusedSimpArgs false

/-! ### cloneStringLists -/
def LsPost (n : Nat) (Ms : List (List St)) (w : World) (e : Ending) (w' : World) : Prop := ∃ ao c, e = .returned (.slice ao n c) ∧ LstRd w' ao Ms ∧ Below w.heap.size w w'
def Done (Ms : List (List St)) (g : Nat) (V : List Value) (k : Nat) (w : World) : Prop := ∀ t, t < k → ∃ ai ci, V[t]? = some (.slice ai (mm Ms t).length ci) ∧ SRd (g + 1) w ai (mm Ms t) ∧ (ai = none → (mm Ms t).length = 0 ∧ ci = 0)
theorem lists_nil (w : World) : Calls Try.prog 15 #[.slice none 0 0] w fun e w' => LsPost 0 [] w e w' := by
  have hnil : ∀ w, (binOp .eql 25 (.slice none 0 0) (.slice none 0 0)).run Try.prog w = .ok (.bool true) w := eq_nil 25 24 Try.underlying25 none 0 0
  go_enter Try.func15, Try.ntmps15
  go_wp2
  go_ret
  exact ⟨none, 0, rfl, Or.inl rfl, Below.refl _ _⟩
set_option maxHeartbeats 800000 in
theorem lists_some (a : Addr) (n cap : Nat) (Ms : List (List St)) (w : World) (hS : Ms.length = n) (hn : n ≤ 1048576) (hms : ∀ i, (mm Ms i).length ≤ 1048576) (hr : LstRd w (some a) Ms) :
    Calls Try.prog 15 #[.slice (some a) n cap] w fun e w' => LsPost n Ms w e w' := by
  have hmk := mk25 n hn
  have h0 : atR (w.alloc (.cells (List.replicate n (.slice none 0 0)).toArray 24)) w.heap.size 24 (List.replicate n (.slice none 0 0)) := heap_alloc_new w _
  have H0 : Hid _ := h0
  have HR : Hid (LstRd w (some a) Ms) := hr
  have HS : Hid _ := hS
  have HMS : Hid (∀ i, (mm Ms i).length ≤ 1048576) := hms
  clear h0 hr hS hms
  have hnil : ∀ w, (binOp .eql 25 (.slice (some a) n cap) (.slice none 0 0)).run Try.prog w = .ok (.bool false) w := eq_nil 25 24 Try.underlying25 (some a) n cap
  go_enter Try.func15, Try.ntmps15
  go_wp2
  go_loopw [4] (fun i wr => ∃ (k : Nat) (V : List Value), i = .int .i64 k ∧ k ≤ n ∧ Hid (V.length = n) ∧ Hid (atR wr w.heap.size 24 V) ∧ Hid (Done Ms w.heap.size V k wr) ∧ Hid (Below w.heap.size w wr)) (fun i _ => n - (intOf i).toNat)
  case atStart => exact ⟨0, _, rfl, Nat.zero_le _, by unfold Hid; simp, H0, (fun t ht => by omega), (Below.refl _ _).alloc (Nat.le_refl _) _⟩
  case round =>
    obtain ⟨k, V, rfl, hk, hVl, ha, hdone, hb⟩ := hrel
    clear H0
    by_cases hlt : k < n
    · obtain ⟨b, off, ai, ci, hao, hbl, hc, hsr, hni⟩ := HR.out.at_ (i := k) (by rw [HS.out]; exact hlt)
      obtain rfl : a = ⟨b, off, none⟩ := by injection hao
      have c1 := (hb.out.cell (p := ⟨b, off + k, none⟩) hbl).trans hc
      obtain ⟨v0, hv0⟩ : ∃ v0, V[k]? = some v0 := ⟨_, List.getElem?_eq_getElem (by rw [hVl.out]; exact hlt)⟩
      obtain ⟨S, hS⟩ : ∃ S, S = mm Ms k := ⟨_, rfl⟩
      have hSl := HMS.out k
      rw [← hS] at c1 hsr hni hSl
      obtain ⟨l, hl⟩ : ∃ l, S.length = l := ⟨_, rfl⟩
      rw [hl] at c1 hni hSl
      have HV0 : Hid _ := hv0
      have HSM : Hid _ := hS
      have HL : Hid _ := hl
      have HNI : Hid _ := hni
      have HSR : Hid (StrRd wr ai S) := hsr.on hb.out
      have hki : (k : Int) < (n : Int) := by omega
      have hbz : w.heap.size < wr.heap.size := atR_lt ha.out
      clear hc hao hmk hv0 hS hl hni hsr
      go_wp2_with fail
      refine (clone_any ai l ci S wr HL.out (by omega) HNI.out HSR.out).mono ?_
      rintro e w1 ⟨ao', c', rfl, hrd, hn', hb1⟩
      have d1 := atR_at (atR_on ha.out hb1) k _ HV0.out
      have f1 := atR_fr (atR_on ha.out hb1) k
      have HA1 : Hid (atR w1 w.heap.size 24 V) := atR_on ha.out hb1
      have HRD : Hid (SRd wr.heap.size w1 ao' S) := hrd
      have HN' : Hid _ := hn'
      have HB1 : Hid _ := hb1
      clear hrd hn' hb1
      go_wp2
      go_roundw
      case rel =>
        refine ⟨k + 1, V.set k (.slice ao' l c'), by go_num, by omega, (by unfold Hid; simp [hVl.out]), atR_set HA1.out k _, ?_, (hb.out.trans (HB1.out.mono (by have := hb.out.size; omega))).setCell (Nat.le_refl _) _⟩
        intro t ht
        by_cases e : t = k
        · subst e
          rw [← HSM.out, HL.out]
          exact ⟨ao', c', by rw [List.getElem?_set_self (by rw [hVl.out]; exact hlt)], (HRD.out.mono (by omega)).set _ _ _ (by omega), HN'.out⟩
        · obtain ⟨at_, ct, h1, h2, h3⟩ := hdone.out t (by omega)
          exact ⟨at_, ct, by rw [List.getElem?_set_ne (by omega)]; exact h1, (h2.on HB1.out).set _ _ _ (by omega), h3⟩
      case measure => simp [intOf]; omega
    · have hki : ¬ (k : Int) < (n : Int) := by omega
      go_wp2
      go_ret
      refine ⟨some ⟨w.heap.size, 0, none⟩, n, rfl, Or.inr ⟨w.heap.size, 0, rfl, atR_lt ha.out, fun i hi => ?_⟩, hb.out⟩
      obtain ⟨ai, ci, h1, h2, h3⟩ := hdone.out i (by have := HS.out; omega)
      exact ⟨ai, ci, by rw [Nat.zero_add]; exact atR_at ha.out i _ h1, h2.rd, h3⟩
theorem lists_any (ao : Option Addr) (n cap : Nat) (Ms : List (List St)) (w : World) (hS : Ms.length = n) (hn : n ≤ 1048576) (hms : ∀ i, (mm Ms i).length ≤ 1048576) (h0 : ao = none → n = 0 ∧ cap = 0) (hr : LstRd w ao Ms) :
    Calls Try.prog 15 #[.slice ao n cap] w fun e w' => LsPost n Ms w e w' := by
  cases ao with
  | none =>
    obtain ⟨rfl, rfl⟩ := h0 rfl
    obtain rfl : Ms = [] := List.eq_nil_of_length_eq_zero hS
    exact lists_nil w
  | some a => exact lists_some a n cap Ms w hS hn hms hr
end Go.Proofs.Qxb6603449a.BL
