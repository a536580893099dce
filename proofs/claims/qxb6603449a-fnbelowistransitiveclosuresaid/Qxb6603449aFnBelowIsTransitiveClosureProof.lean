/- The frame of this text is the guide's for a law whose world is told by 'Below'; the walk is BL.law_any (Qxb6603449aBla). -/
import Derived.Test.Qxb6603449aRows
import Derived.Test.Qxb6603449aBla
import Derived.WalkKit
import Derived.ProofKit
import Derived.OpenShut
import Derived.ShutString
import Derived.ChangeOld
import Derived.Below
import Derived.Deep.Slices
namespace Go.Proofs.Qxb6603449a.fnBelowIsTransitiveClosure
open Go.ChangeShapes Go.WideShapes Go.ChangeAt Go.RowKit
open Go.ChangeMaps (open_string shut_string)
open BL
set_option linter.unusedVariables false

theorem own : ownKnob Try.prog.godebug = none := by kernel_rfl
theorem laidOut : laidOutB Try.prog = true := by kernel_rfl
theorem cells9 : Try.prog.cellsOf 9 = 1 := by kernel_rfl
theorem cells24 : Try.prog.cellsOf 24 = 1 := by kernel_rfl

/-- A cell that holds a slice of strings. -/
theorem strs_of {H : Type} {enc : TypeId × Value → H} {W : World} {v : Value} {fuel : Nat} {x : DataW H × List MemPlace} (h : DataW.trod enc Try.prog W 0 (fun _ => true) true fuel 24 [v] = some x) :
    ∃ (ao : Option Addr) (n cap : Nat) (N : List St), v = .slice ao n cap ∧ N.length = n ∧ n ≤ maxLen ∧ StrRd W ao N ∧ (ao = none → n = 0 ∧ cap = 0) := by
  rcases Go.Deep.open_slice1 Try.underlying24 cells9 h with ⟨hcs, _⟩ | ⟨a, len, cap, m, k, V, D, Pl, hcs, _, hl, hm, hmm, _, hx⟩
  · have e : v = .slice none 0 0 := by simpa using hcs
    exact ⟨none, 0, 0, [], e, rfl, Nat.zero_le _, Or.inl rfl, fun _ => ⟨rfl, rfl⟩⟩
  · have e : v = .slice (some a) len cap := by simpa using hcs
    have hmc : m = cap := by simpa using hmm
    subst hmc
    have each : ∀ i, i < len → ∃ s : St, W.cell? (a.add i) = some (.string s) := by
      intro i hi
      obtain ⟨c0, t0⟩ := hx i (by omega)
      obtain ⟨s, e0, _⟩ := DataW.trod_string Try.underlying9 t0
      have e0' : V i = .string s := by simpa using e0
      exact ⟨s, by rw [c0, e0']⟩
    obtain ⟨f, hf⟩ := Go.Deep.choose_lt each
    refine ⟨some a, len, m, (List.range len).map f, e, by simp, by omega, ?_, fun c => by cases c⟩
    by_cases h0 : len = 0
    · left; subst h0; rfl
    · right
      obtain ⟨bl, off, spot⟩ := a
      have hspot : spot = none := by simpa [Addr.add] using World.cell?_spot (hf 0 (by omega))
      subst hspot
      have lt : bl < W.heap.size := by
        by_cases hx2 : bl < W.heap.size
        · exact hx2
        · have := hf 0 (by omega)
          simp [World.cell?, Addr.add, show ¬ bl < W.heap.size from hx2] at this
      refine ⟨bl, off, rfl, lt, fun i hi => ?_⟩
      have hi' : i < len := by simpa using hi
      have e : ((List.range len).map f).getD i ByteArray.empty = f i := by simp [hi']
      rw [e]
      have := hf i hi'
      rw [Addr.add_lit] at this
      exact this
/-- .. a slice of such slices. -/
theorem lists_of {H : Type} {enc : TypeId × Value → H} {W : World} {v : Value} {fuel : Nat} {x : DataW H × List MemPlace} (h : DataW.trod enc Try.prog W 0 (fun _ => true) true fuel 25 [v] = some x) :
    ∃ (ao : Option Addr) (n cap : Nat) (Ms : List (List St)), v = .slice ao n cap ∧ Ms.length = n ∧ n ≤ maxLen ∧ LstRd W ao Ms ∧ (ao = none → n = 0 ∧ cap = 0) := by
  rcases Go.Deep.open_slice1 Try.underlying25 cells24 h with ⟨hcs, _⟩ | ⟨a, len, cap, m, k, V, D, Pl, hcs, _, hl, hm, hmm, _, hx⟩
  · have e : v = .slice none 0 0 := by simpa using hcs
    exact ⟨none, 0, 0, [], e, rfl, Nat.zero_le _, Or.inl rfl, fun _ => ⟨rfl, rfl⟩⟩
  · have e : v = .slice (some a) len cap := by simpa using hcs
    have hmc : m = cap := by simpa using hmm
    subst hmc
    have each : ∀ i, i < len → ∃ S : List St, ∃ ai ci, W.cell? (a.add i) = some (.slice ai S.length ci) ∧ StrRd W ai S ∧ (ai = none → S.length = 0 ∧ ci = 0) := by
      intro i hi
      obtain ⟨c0, t0⟩ := hx i (by omega)
      obtain ⟨ai, n, ci, S, e0, hS, _, hrd, hnone⟩ := strs_of t0
      exact ⟨S, ai, ci, by rw [c0, e0, hS], hrd, by rw [hS]; exact hnone⟩
    obtain ⟨f, hf⟩ := Go.Deep.choose_lt each
    refine ⟨some a, len, m, (List.range len).map f, e, by simp, by omega, ?_, fun c => by cases c⟩
    by_cases h0 : len = 0
    · left; subst h0; rfl
    · right
      obtain ⟨bl, off, spot⟩ := a
      obtain ⟨_, _, c00, _⟩ := hf 0 (by omega)
      have hspot : spot = none := by simpa [Addr.add] using World.cell?_spot c00
      subst hspot
      have lt : bl < W.heap.size := by
        by_cases hx2 : bl < W.heap.size
        · exact hx2
        · simp [World.cell?, Addr.add, show ¬ bl < W.heap.size from hx2] at c00
      refine ⟨bl, off, rfl, lt, fun i hi => ?_⟩
      have hi' : i < len := by simpa using hi
      have e : mm ((List.range len).map f) i = f i := by simp [mm, hi']
      rw [e]
      obtain ⟨ai, ci, h1, h2⟩ := hf i hi'
      rw [Addr.add_lit] at h1
      exact ⟨ai, ci, h1, h2⟩

set_option maxRecDepth 100000 in
theorem lifted (os : Os) (started : os.Started) (H : Type) (enc : TypeId × Value → H) :
    ReturnsInHanded {} Try.checked os 5 .any (Rows.fnBelowIsTransitiveClosureSpec.pre6 enc Try.prog Try.f5 Rows.fnBelowIsTransitiveClosureRow.domain false) (Rows.fnBelowIsTransitiveClosureSpec.post enc Try.prog Try.f5 false true false false) := by
  refine returnsInHanded_of_change (C := Try.checked) own started (by kernel_rfl) Try.func5
    (ChangeSpec.witness6 (enc := enc) (C := Try.checked) false ⟨#[], #[.slice none 0 0, .slice none 0 0, .string ByteArray.empty], []⟩ 8 (by kernel_rfl) (by kernel_rfl) (by kernel_rfl) (by kernel_rfl)) ?_
  intro W base args ds gs before hval0 hW hcnd _
  have hval : ∀ (j : Nat) t v, Try.f5.params[j]? = some t → args[j]? = some v → Value.okWide Try.prog W .any base t v := hval0
  have hW' := hW
  obtain ⟨p, q, hA0, hV, rfl, hfz, hnd⟩ := hW
  have hA : DataW.TrodAll enc Try.prog W 0 (fun _ => true) true Try.f5.params.toList args.toList ds p := hA0
  rw [Try.params5] at hA hval
  obtain ⟨v0, vs0, d0, ds0, p0, q0, hargs, rfl, rfl, h0, r0⟩ := trodAll_cons hA
  obtain ⟨v1, vs1, d1, ds1, p1, q1, rfl, rfl, rfl, h1, r1⟩ := trodAll_cons r0
  obtain ⟨v2, vs2, d2, ds2, p2, q2, rfl, rfl, rfl, h2, r2⟩ := trodAll_cons r1
  obtain ⟨rfl, rfl, rfl⟩ := trodAll_nil r2
  obtain rfl : args = #[v0, v1, v2] := by cases args; simp_all
  obtain ⟨rfl, rfl⟩ := trodVars_none hV
  have k0 := h0
  have k1 := h1
  have lt0 : ∀ x ∈ p0, x.block < W.heap.size := by obtain ⟨m, hm⟩ := k0; exact DataW.trod_lt m _ _ _ hm
  have lt1 : ∀ x ∈ p1, x.block < W.heap.size := by obtain ⟨m, hm⟩ := k1; exact DataW.trod_lt m _ _ _ hm
  obtain ⟨a0, n0, cc0, rfl⟩ := okWide_slice Try.underlying24 (hval 0 24 v0 rfl rfl)
  obtain ⟨a1, n1, cc1, rfl⟩ := okWide_slice Try.underlying25 (hval 1 25 v1 rfl rfl)
  obtain ⟨s, rfl, rfl, rfl, hs⟩ := open_string Try.underlying9 (hval 2 9 v2 rfl rfl) h2
  obtain ⟨f0, g0⟩ := h0
  obtain ⟨f1, g1⟩ := h1
  obtain ⟨b0, m0, e0, N, ev0, hN, hn, rdN, hnN⟩ := strs_of g0
  obtain ⟨b1, m1, e1, Ms, ev1, hM, hm, rdM, hnM⟩ := lists_of g1
  clear hA0 hval0
  rw [ev0, ev1]
  refine (law_any N Ms s b0 b1 m0 m1 e0 e1 W hN hM hn hm rdN rdM hnN hnM).mono fun e W' ⟨he, bel⟩ => ?_
  subst he
  rw [← ev0, ← ev1]
  exact ⟨_, rfl, _, _, _, [], _, [], hW', trodAll_mk1 (shut_bool Try.underlying4 _), (trodAll_cons_mk (Below.trod laidOut (by kernel_rfl) (of_decide_eq_true (by kernel_rfl)) k0 bel lt0) (trodAll_cons_mk (Below.trod laidOut (by kernel_rfl) (of_decide_eq_true (by kernel_rfl)) k1 bel lt1) (trodAll_cons_mk (shut_string Try.underlying9 hs) trodAll_mk0))), rfl, bel.frame _, fun h => by cases h⟩

theorem over : Rows.fnBelowIsTransitiveClosureRow.holds Try.pinned (OpenSpec.ofChange Rows.fnBelowIsTransitiveClosureSpec) :=
  OpenClaim.holds_of_wide 5 Try.f5 rfl rfl rfl rfl rfl rfl rfl ⟨rfl, rfl, rfl, rfl, rfl⟩ rfl rfl rfl rfl rfl (by kernel_rfl) Try.func5 (by kernel_rfl)
    (of_decide_eq_true (by kernel_rfl)) (by unfold Func.isWrapper; first | (rw [if_pos (by decide +kernel)]; kernel_rfl) | (rw [if_neg (by decide +kernel)]; exact ⟨rfl, rfl⟩))
    (fun os started H enc _ => lifted os started H enc)

/-- THE STATEMENT -/
theorem proved : Rows.FnBelowIsTransitiveClosureSaid := over
end Go.Proofs.Qxb6603449a.fnBelowIsTransitiveClosure
