/- The frame of this text is the guide's for a law whose world is told by 'Below'; the walk is SD.law (Qxb6603421aSd9). -/
import Derived.Test.Qxb6603421aRows
import Derived.Test.Qxb6603421aSd9
import Derived.WalkKit
import Derived.ProofKit
import Derived.OpenShut
import Derived.ChangeOld
import Derived.Below
import Derived.Deep.SlicePairs
namespace Go.Proofs.Qxb6603421a.fnSortByDigitIsStableSortByW
open Go.ChangeShapes Go.WideShapes Go.ChangeAt Go.RowKit
open SD
set_option linter.unusedVariables false

theorem own : ownKnob Try.prog.godebug = none := by kernel_rfl
theorem laidOut : laidOutB Try.prog = true := by kernel_rfl
theorem cells60 : Try.prog.cellsOf 60 = 2 := by kernel_rfl
theorem cells29 : Try.prog.cellsOf 29 = 1 := by kernel_rfl
theorem cells3 : Try.prog.cellsOf 3 = 1 := by kernel_rfl

theorem wf_in {k : IntKind} {x : Int} (h : (Lit.int k x).wf = true) : k.min ≤ x ∧ x ≤ k.max := by
  have b : (decide (k.min ≤ x) && decide (x ≤ k.max)) = true := h
  rw [Bool.and_eq_true, decide_eq_true_eq, decide_eq_true_eq] at b
  exact b
/-- A slice of keys that came in. -/
theorem open_keys {H : Type} {enc : TypeId × Value → H} {W : World} {v : Value} {d : DataW H} {p : List MemPlace} {r : Reach} {b : Nat}
    (hv : Value.okWide Try.prog W r b 22 v) (h : DataW.Trod enc Try.prog W 0 (fun _ => true) true 22 v d p) :
    ∃ (ao : Option Addr) (n cap : Nat) (K : List Ky), v = .slice ao n cap ∧ K.length = n ∧ n ≤ maxLen ∧ Rd W ao K ∧ Okl K := by
  obtain ⟨ao, n, cap, rfl⟩ := okWide_slice Try.underlying22 hv
  obtain ⟨fuel, hf⟩ := h
  rcases Go.Deep.open_slice_pairs Try.underlying22 Try.underlying60 cells60 rfl rfl cells29 cells3 hf with ⟨hcs, _⟩ | ⟨a, len, cap', m, k, V0, V1, D0, D1, P0, P1, hcs, _, hl, hm, hmm, _, hx⟩
  · simp [Value.cells] at hcs
    obtain ⟨rfl, rfl, rfl⟩ := hcs
    exact ⟨none, 0, 0, [], rfl, rfl, Nat.zero_le _, Or.inl rfl, fun x hx => by simp at hx⟩
  · simp [Value.cells] at hcs
    obtain ⟨rfl, rfl, rfl⟩ := hcs
    have hmc : m = cap := by simpa using hmm
    subst hmc
    have each : ∀ i, i < n → ∃ x : Ky, okK x ∧ W.cell? (a.add (i * 2)) = some (.int .u64 (x.1 : Int)) ∧ W.cell? (a.add (i * 2 + 1)) = some (.int .i64 x.2) := by
      intro i hi
      obtain ⟨c0, c1, t0, t1⟩ := hx i (by omega)
      obtain ⟨x, e0, _, w0⟩ := DataW.trod_int Try.underlying29 t0
      obtain ⟨y, e1, _, w1⟩ := DataW.trod_int Try.underlying3 t1
      have e0' : V0 i = .int .u64 x := by simpa using e0
      have e1' : V1 i = .int .i64 y := by simpa using e1
      have b0 := wf_in w0
      have b1 := wf_in w1
      rw [show IntKind.u64.min = 0 from rfl, show IntKind.u64.max = 18446744073709551615 from rfl] at b0
      rw [show IntKind.i64.min = -9223372036854775808 from rfl, show IntKind.i64.max = 9223372036854775807 from rfl] at b1
      clear w0 w1
      refine ⟨(x.toNat, y), ⟨?_, ?_, ?_⟩, ?_, ?_⟩
      · simp only; omega
      · simp only; omega
      · simp only; omega
      · rw [c0, e0']; simp only; congr 2; omega
      · rw [c1, e1']
    obtain ⟨f, hf2⟩ := Go.Deep.choose_lt each
    refine ⟨some a, n, m, (List.range n).map f, rfl, by simp, by omega, ?_, ?_⟩
    · by_cases h0 : n = 0
      · left; subst h0; rfl
      · right
        obtain ⟨bl, off, spot⟩ := a
        have hspot : spot = none := by simpa [Addr.add] using World.cell?_spot (hf2 0 (by omega)).2.1
        subst hspot
        have lt : bl < W.heap.size := by
          by_cases hx2 : bl < W.heap.size
          · exact hx2
          · have := (hf2 0 (by omega)).2.1
            simp [World.cell?, Addr.add, show ¬ bl < W.heap.size from hx2] at this
        refine ⟨bl, off, rfl, lt, fun i hi => ?_⟩
        have hi' : i < n := by simpa using hi
        have e : ((List.range n).map f).getD i (0, 0) = f i := by simp [hi']
        rw [e]
        have := hf2 i hi'
        rw [Addr.add_lit, Addr.add_lit, ← Nat.add_assoc] at this
        exact this.2
    · intro x hx2
      obtain ⟨i, hi, rfl⟩ := List.mem_map.1 hx2
      exact (hf2 i (List.mem_range.1 hi)).1

set_option maxRecDepth 100000 in
theorem lifted (os : Os) (started : os.Started) (H : Type) (enc : TypeId × Value → H) :
    ReturnsInHanded {} Try.checked os 3 .any (Rows.fnSortByDigitIsStableSortByWSpec.pre6 enc Try.prog Try.f3 Rows.fnSortByDigitIsStableSortByWRow.domain false) (Rows.fnSortByDigitIsStableSortByWSpec.post enc Try.prog Try.f3 false true false false) := by
  refine returnsInHanded_of_change (C := Try.checked) own started (by kernel_rfl) Try.func3
    (ChangeSpec.witness6 (enc := enc) (C := Try.checked) false ⟨#[], #[.slice none 0 0, .slice none 0 0], []⟩ 8 (by kernel_rfl) (by kernel_rfl) (by kernel_rfl) (by kernel_rfl)) ?_
  intro W base args ds gs before hval0 hW hcnd _
  have hval : ∀ (j : Nat) t v, Try.f3.params[j]? = some t → args[j]? = some v → Value.okWide Try.prog W .any base t v := hval0
  have hW' := hW
  obtain ⟨p, q, hA0, hV, rfl, hfz, hnd⟩ := hW
  have hA : DataW.TrodAll enc Try.prog W 0 (fun _ => true) true Try.f3.params.toList args.toList ds p := hA0
  rw [Try.params3] at hA hval
  obtain ⟨v0, vs0, d0, ds0, p0, q0, hargs, rfl, rfl, h0, r0⟩ := trodAll_cons hA
  obtain ⟨v1, vs1, d1, ds1, p1, q1, rfl, rfl, rfl, h1, r1⟩ := trodAll_cons r0
  obtain ⟨rfl, rfl, rfl⟩ := trodAll_nil r1
  obtain rfl : args = #[v0, v1] := by cases args; simp_all
  obtain ⟨rfl, rfl⟩ := trodVars_none hV
  have k0 := h0
  have k1 := h1
  have lt0 : ∀ x ∈ p0, x.block < W.heap.size := by obtain ⟨m, hm⟩ := k0; exact DataW.trod_lt m _ _ _ hm
  have lt1 : ∀ x ∈ p1, x.block < W.heap.size := by obtain ⟨m, hm⟩ := k1; exact DataW.trod_lt m _ _ _ hm
  obtain ⟨a1, n, c1, K, rfl, hK, hn, rd1, ok1⟩ := open_keys (hval 0 22 v0 rfl rfl) h0
  obtain ⟨a2, m, c2, M, rfl, hM, hm, rd2, ok2⟩ := open_keys (hval 1 22 v1 rfl rfl) h1
  clear hA0 hval0
  refine (law a1 a2 n m c1 c2 K M W hK hM hn hm rd1 rd2 ok1 ok2).mono fun e W' ⟨he, bel⟩ => ?_
  subst he
  exact ⟨_, rfl, _, _, _, [], _, [], hW', trodAll_mk1 (shut_bool Try.underlying4 _), (trodAll_cons_mk (Below.trod laidOut (by kernel_rfl) (of_decide_eq_true (by kernel_rfl)) k0 bel lt0) (trodAll_cons_mk (Below.trod laidOut (by kernel_rfl) (of_decide_eq_true (by kernel_rfl)) k1 bel lt1) trodAll_mk0)), rfl, bel.frame _, fun h => by cases h⟩

theorem over : Rows.fnSortByDigitIsStableSortByWRow.holds Try.pinned (OpenSpec.ofChange Rows.fnSortByDigitIsStableSortByWSpec) :=
  OpenClaim.holds_of_wide 3 Try.f3 rfl rfl rfl rfl rfl rfl rfl ⟨rfl, rfl, rfl, rfl, rfl⟩ rfl rfl rfl rfl rfl (by kernel_rfl) Try.func3 (by kernel_rfl)
    (of_decide_eq_true (by kernel_rfl)) (by unfold Func.isWrapper; first | (rw [if_pos (by decide +kernel)]; kernel_rfl) | (rw [if_neg (by decide +kernel)]; exact ⟨rfl, rfl⟩))
    (fun os started H enc _ => lifted os started H enc)

/-- THE STATEMENT -/
theorem proved : Rows.FnSortByDigitIsStableSortByWSaid := over
end Go.Proofs.Qxb6603421a.fnSortByDigitIsStableSortByW
