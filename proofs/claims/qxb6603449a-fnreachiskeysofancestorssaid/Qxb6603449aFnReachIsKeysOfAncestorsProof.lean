/- The frame of this text is the guide's for a law whose world is told by 'Below'; the walk is BL.law2_any (Qxb6603449aRw). -/
import Derived.Test.Qxb6603449aRows
import Derived.Test.Qxb6603449aRw
import Derived.WalkKit
import Derived.ProofKit
import Derived.OpenShut
import Derived.ShutString
import Derived.ChangeOld
import Derived.Below
import Derived.Deep.Slices
namespace Go.Proofs.Qxb6603449a.fnReachIsKeysOfAncestors
open Go.ChangeShapes Go.WideShapes Go.ChangeAt Go.RowKit
open Go.ChangeMaps (open_string shut_string)
open BL
set_option linter.unusedVariables false

theorem own : ownKnob Try.prog.godebug = none := by kernel_rfl
theorem laidOut : laidOutB Try.prog = true := by kernel_rfl
theorem cells9 : Try.prog.cellsOf 9 = 1 := by kernel_rfl
theorem cells21 : Try.prog.cellsOf 21 = 1 := by kernel_rfl
theorem cells63 : Try.prog.cellsOf 63 = 2 := by kernel_rfl

/-- A cell that holds a slice of strings. -/
theorem strs_of {H : Type} {enc : TypeId × Value → H} {W : World} {v : Value} {fuel : Nat} {x : DataW H × List MemPlace} (h : DataW.trod enc Try.prog W 0 (fun _ => true) true fuel 24 [v] = some x) :
    ∃ (ao : Option Addr) (n cap : Nat) (N : List St), v = .slice ao n cap ∧ N.length = n ∧ n ≤ maxLen ∧ StrRd W ao N ∧ (ao = none → n = 0 ∧ cap = 0) := by
  rcases Go.Deep.open_slice1 Try.underlying24 cells9 h with ⟨hcs, _⟩ | ⟨a, len, cap, m, k, V, D, Pl, hcs, _, hl, hm, hmm, _, hx⟩
  · have e : v = .slice none 0 0 := by simpa using hcs
    exact ⟨none, 0, 0, [], e, rfl, Nat.zero_le _, Or.inl rfl, fun _ => ⟨rfl, rfl⟩⟩
  · have e : v = .slice (some a) len cap := by simpa using hcs
    have hmc : m = cap := by simpa using hmm
    subst hmc
    have each : ∀ i, i < len → ∃ s : St, W.cell? (a.add i) = some (.string s) := by
      intro i hi
      obtain ⟨c0, t0⟩ := hx i (by omega)
      obtain ⟨s, e0, _⟩ := DataW.trod_string Try.underlying9 t0
      have e0' : V i = .string s := by simpa using e0
      exact ⟨s, by rw [c0, e0']⟩
    obtain ⟨f, hf⟩ := Go.Deep.choose_lt each
    refine ⟨some a, len, m, (List.range len).map f, e, by simp, by omega, ?_, fun c => by cases c⟩
    by_cases h0 : len = 0
    · left; subst h0; rfl
    · right
      obtain ⟨bl, off, spot⟩ := a
      have hspot : spot = none := by simpa [Addr.add] using World.cell?_spot (hf 0 (by omega))
      subst hspot
      have lt : bl < W.heap.size := by
        by_cases hx2 : bl < W.heap.size
        · exact hx2
        · have := hf 0 (by omega)
          simp [World.cell?, Addr.add, show ¬ bl < W.heap.size from hx2] at this
      refine ⟨bl, off, rfl, lt, fun i hi => ?_⟩
      have hi' : i < len := by simpa using hi
      have e : ((List.range len).map f).getD i ByteArray.empty = f i := by simp [hi']
      rw [e]
      have := hf i hi'
      rw [Addr.add_lit] at this
      exact this
/-- .. a slice of numbers. -/
theorem ints_of {H : Type} {enc : TypeId × Value → H} {W : World} {v : Value} {fuel : Nat} {x : DataW H × List MemPlace} (h : DataW.trod enc Try.prog W 0 (fun _ => true) true fuel 34 [v] = some x) :
    ∃ (ao : Option Addr) (n cap : Nat) (N : List Int), v = .slice ao n cap ∧ N.length = n ∧ n ≤ maxLen ∧ IntRd W ao N ∧ (ao = none → n = 0 ∧ cap = 0) := by
  rcases Go.Deep.open_slice1 Try.underlying34 cells21 h with ⟨hcs, _⟩ | ⟨a, len, cap, m, k, V, D, Pl, hcs, _, hl, hm, hmm, _, hx⟩
  · have e : v = .slice none 0 0 := by simpa using hcs
    exact ⟨none, 0, 0, [], e, rfl, Nat.zero_le _, Or.inl rfl, fun _ => ⟨rfl, rfl⟩⟩
  · have e : v = .slice (some a) len cap := by simpa using hcs
    have hmc : m = cap := by simpa using hmm
    subst hmc
    have each : ∀ i, i < len → ∃ s : Int, W.cell? (a.add i) = some (.int .i32 s) := by
      intro i hi
      obtain ⟨c0, t0⟩ := hx i (by omega)
      obtain ⟨s, e0, _⟩ := DataW.trod_int Try.underlying21 t0
      have e0' : V i = .int .i32 s := by simpa using e0
      exact ⟨s, by rw [c0, e0']⟩
    obtain ⟨f, hf⟩ := Go.Deep.choose_lt each
    refine ⟨some a, len, m, (List.range len).map f, e, by simp, by omega, ?_, fun c => by cases c⟩
    by_cases h0 : len = 0
    · left; subst h0; rfl
    · right
      obtain ⟨bl, off, spot⟩ := a
      have hspot : spot = none := by simpa [Addr.add] using World.cell?_spot (hf 0 (by omega))
      subst hspot
      have lt : bl < W.heap.size := by
        by_cases hx2 : bl < W.heap.size
        · exact hx2
        · have := hf 0 (by omega)
          simp [World.cell?, Addr.add, show ¬ bl < W.heap.size from hx2] at this
      refine ⟨bl, off, rfl, lt, fun i hi => ?_⟩
      have hi' : i < len := by simpa using hi
      have e : ((List.range len).map f).getD i 0 = f i := by simp [hi']
      rw [e]
      have := hf i hi'
      rw [Addr.add_lit] at this
      exact this
theorem two_of {α : Type} {l : List α} (h : l.length = 2) : ∃ a b, l = [a, b] := by
  cases l with
  | nil => cases h
  | cons a l =>
    cases l with
    | nil => cases h
    | cons b l =>
      cases l with
      | nil => exact ⟨a, b, rfl⟩
      | cons c l => simp at h
theorem str_at {H : Type} {enc : TypeId × Value → H} {W : World} {fuel i : Nat} {cs : List Value} {xs : List (DataW H × List MemPlace)} (hi : i < xs.length) (h : DataW.trod enc Try.prog W 0 (fun _ => true) true fuel 9 cs = xs[i]?) : ∃ s : St, cs = [.string s] := by
  rw [List.getElem?_eq_getElem hi] at h
  obtain ⟨s, e, _⟩ := DataW.trod_string Try.underlying9 h
  exact ⟨s, e⟩
/-- .. a slice of pairs of strings. -/
theorem edges_of {H : Type} {enc : TypeId × Value → H} {W : World} {v : Value} {fuel : Nat} {x : DataW H × List MemPlace} (h : DataW.trod enc Try.prog W 0 (fun _ => true) true fuel 33 [v] = some x) :
    ∃ (ao : Option Addr) (n cap : Nat) (E : Ed), v = .slice ao n cap ∧ E.length = n ∧ n ≤ maxLen ∧ EdRd W ao E ∧ (ao = none → n = 0 ∧ cap = 0) := by
  rcases Go.Deep.open_slice Try.underlying33 h with ⟨hcs, _⟩ | ⟨a, len, cap, m, k, D, Pl, hcs, _, hl, hm, hmm, _, hx⟩
  · have e : v = .slice none 0 0 := by simpa using hcs
    exact ⟨none, 0, 0, [], e, rfl, Nat.zero_le _, Or.inl rfl, fun _ => ⟨rfl, rfl⟩⟩
  · have e : v = .slice (some a) len cap := by simpa using hcs
    have hmc : m = cap := by simpa using hmm
    subst hmc
    rw [cells63] at hx
    have each : ∀ i, i < len → ∃ s : St × St, W.cell? (a.add (i * 2)) = some (.string s.1) ∧ W.cell? (a.add (i * 2 + 1)) = some (.string s.2) := by
      intro i hi
      obtain ⟨cs, c0, t0⟩ := hx i (by omega)
      obtain ⟨xs, k2, _, _, hlen, hxl, hel⟩ := DataW.trod_array Try.underlying63 t0
      rw [cells63] at hlen
      obtain ⟨_, _, hcc⟩ := World.cells?_some c0
      generalize hc9 : Try.prog.cellsOf 9 = q9 at hel
      have hq9 : q9 = 1 := hc9.symm.trans cells9
      subst hq9
      have g0 := hel 0 (by omega)
      have g1 := hel 1 (by omega)
      obtain ⟨u0, u1, rfl⟩ := two_of hlen
      obtain ⟨s0, e0⟩ := str_at (xs := xs) (i := 0) (by omega) g0
      obtain ⟨s1, e1⟩ := str_at (xs := xs) (i := 1) (by omega) g1
      have e0' : u0 = .string s0 := by simpa using e0
      have e1' : u1 = .string s1 := by simpa using e1
      have q0 := hcc 0 (by omega)
      have q1 := hcc 1 (by omega)
      rw [Go.Deep.add_add] at q0 q1
      refine ⟨(s0, s1), ?_, ?_⟩
      · rw [Nat.add_zero] at q0; rw [q0, e0']; rfl
      · rw [q1, e1']; rfl
    obtain ⟨f, hf⟩ := Go.Deep.choose_lt each
    refine ⟨some a, len, m, (List.range len).map f, e, by simp, by omega, ?_, fun c => by cases c⟩
    by_cases h0 : len = 0
    · left; subst h0; rfl
    · right
      obtain ⟨bl, off, spot⟩ := a
      have hspot : spot = none := by simpa [Addr.add] using World.cell?_spot (hf 0 (by omega)).1
      subst hspot
      have lt : bl < W.heap.size := by
        by_cases hx2 : bl < W.heap.size
        · exact hx2
        · have := (hf 0 (by omega)).1
          simp [World.cell?, Addr.add, show ¬ bl < W.heap.size from hx2] at this
      refine ⟨bl, off, rfl, lt, fun i hi => ?_⟩
      have hi' : i < len := by simpa using hi
      have e1 : ek ((List.range len).map f) i = (f i).1 := by simp [ek, hi']
      have e2 : eg ((List.range len).map f) i = (f i).2 := by simp [eg, hi']
      rw [e1, e2]
      have := hf i hi'
      rw [Addr.add_lit, Addr.add_lit] at this
      exact this

set_option maxRecDepth 100000 in
theorem lifted (os : Os) (started : os.Started) (H : Type) (enc : TypeId × Value → H) :
    ReturnsInHanded {} Try.checked os 7 .any (Rows.fnReachIsKeysOfAncestorsSpec.pre6 enc Try.prog Try.f7 Rows.fnReachIsKeysOfAncestorsRow.domain false) (Rows.fnReachIsKeysOfAncestorsSpec.post enc Try.prog Try.f7 false true false false) := by
  refine returnsInHanded_of_change (C := Try.checked) own started (by kernel_rfl) Try.func7
    (ChangeSpec.witness6 (enc := enc) (C := Try.checked) false ⟨#[], #[.slice none 0 0, .slice none 0 0, .slice none 0 0, .string ByteArray.empty], []⟩ 8 (by kernel_rfl) (by kernel_rfl) (by kernel_rfl) (by kernel_rfl)) ?_
  intro W base args ds gs before hval0 hW hcnd _
  have hval : ∀ (j : Nat) t v, Try.f7.params[j]? = some t → args[j]? = some v → Value.okWide Try.prog W .any base t v := hval0
  have hW' := hW
  obtain ⟨p, q, hA0, hV, rfl, hfz, hnd⟩ := hW
  have hA : DataW.TrodAll enc Try.prog W 0 (fun _ => true) true Try.f7.params.toList args.toList ds p := hA0
  rw [Try.params7] at hA hval
  obtain ⟨v0, vs0, d0, ds0, p0, q0, hargs, rfl, rfl, h0, r0⟩ := trodAll_cons hA
  obtain ⟨v1, vs1, d1, ds1, p1, q1, rfl, rfl, rfl, h1, r1⟩ := trodAll_cons r0
  obtain ⟨v2, vs2, d2, ds2, p2, q2, rfl, rfl, rfl, h2, r2⟩ := trodAll_cons r1
  obtain ⟨v3, vs3, d3, ds3, p3, q3, rfl, rfl, rfl, h3, r3⟩ := trodAll_cons r2
  obtain ⟨rfl, rfl, rfl⟩ := trodAll_nil r3
  obtain rfl : args = #[v0, v1, v2, v3] := by cases args; simp_all
  obtain ⟨rfl, rfl⟩ := trodVars_none hV
  have k0 := h0
  have k1 := h1
  have k2 := h2
  have lt0 : ∀ x ∈ p0, x.block < W.heap.size := by obtain ⟨m, hm⟩ := k0; exact DataW.trod_lt m _ _ _ hm
  have lt1 : ∀ x ∈ p1, x.block < W.heap.size := by obtain ⟨m, hm⟩ := k1; exact DataW.trod_lt m _ _ _ hm
  have lt2 : ∀ x ∈ p2, x.block < W.heap.size := by obtain ⟨m, hm⟩ := k2; exact DataW.trod_lt m _ _ _ hm
  obtain ⟨a0, n0, cc0, rfl⟩ := okWide_slice Try.underlying33 (hval 0 33 v0 rfl rfl)
  obtain ⟨a1, n1, cc1, rfl⟩ := okWide_slice Try.underlying24 (hval 1 24 v1 rfl rfl)
  obtain ⟨a2, n2, cc2, rfl⟩ := okWide_slice Try.underlying34 (hval 2 34 v2 rfl rfl)
  obtain ⟨s, rfl, rfl, rfl, hs⟩ := open_string Try.underlying9 (hval 3 9 v3 rfl rfl) h3
  obtain ⟨f0, g0⟩ := h0
  obtain ⟨f1, g1⟩ := h1
  obtain ⟨f2, g2⟩ := h2
  obtain ⟨b0, m0, e0, E, ev0, hE, hn0, rdE, hnE⟩ := edges_of g0
  obtain ⟨b1, m1, e1, KN, ev1, hK, hn1, rdK, hnK⟩ := strs_of g1
  obtain ⟨b2, m2, e2, KV, ev2, hV2, hn2, rdV, hnV⟩ := ints_of g2
  clear hA0 hval0
  rw [ev0, ev1, ev2]
  refine (law2_any E KN KV s b0 b1 b2 m0 m1 m2 e0 e1 e2 W hE hK hV2 hn0 hn1 hn2 rdE rdK rdV hnE hnK hnV).mono fun e W' ⟨he, bel⟩ => ?_
  subst he
  rw [← ev0, ← ev1, ← ev2]
  exact ⟨_, rfl, _, _, _, [], _, [], hW', trodAll_mk1 (shut_bool Try.underlying4 _), (trodAll_cons_mk (Below.trod laidOut (by kernel_rfl) (of_decide_eq_true (by kernel_rfl)) k0 bel lt0) (trodAll_cons_mk (Below.trod laidOut (by kernel_rfl) (of_decide_eq_true (by kernel_rfl)) k1 bel lt1) (trodAll_cons_mk (Below.trod laidOut (by kernel_rfl) (of_decide_eq_true (by kernel_rfl)) k2 bel lt2) (trodAll_cons_mk (shut_string Try.underlying9 hs) trodAll_mk0)))), rfl, bel.frame _, fun h => by cases h⟩

theorem over : Rows.fnReachIsKeysOfAncestorsRow.holds Try.pinned (OpenSpec.ofChange Rows.fnReachIsKeysOfAncestorsSpec) :=
  OpenClaim.holds_of_wide 7 Try.f7 rfl rfl rfl rfl rfl rfl rfl ⟨rfl, rfl, rfl, rfl, rfl⟩ rfl rfl rfl rfl rfl (by kernel_rfl) Try.func7 (by kernel_rfl)
    (of_decide_eq_true (by kernel_rfl)) (by unfold Func.isWrapper; first | (rw [if_pos (by decide +kernel)]; kernel_rfl) | (rw [if_neg (by decide +kernel)]; exact ⟨rfl, rfl⟩))
    (fun os started H enc _ => lifted os started H enc)

/-- THE STATEMENT -/
theorem proved : Rows.FnReachIsKeysOfAncestorsSaid := over
end Go.Proofs.Qxb6603449a.fnReachIsKeysOfAncestors
