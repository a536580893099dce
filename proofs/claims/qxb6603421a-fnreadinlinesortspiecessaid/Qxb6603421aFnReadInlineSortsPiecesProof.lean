/- The frame of this text is the guide's for a law whose world is told by 'Below'; the walk is RI.law_any (Qxb6603421aRi5). -/
import Derived.Test.Qxb6603421aRows
import Derived.Test.Qxb6603421aRi5
import Derived.WalkKit
import Derived.ProofKit
import Derived.OpenShut
import Derived.ShutString
import Derived.ChangeOld
import Derived.Below
namespace Go.Proofs.Qxb6603421a.fnReadInlineSortsPieces
open Go.ChangeShapes Go.WideShapes Go.ChangeAt Go.RowKit
open Go.ChangeMaps (open_string shut_string)
open RI
set_option linter.unusedVariables false

theorem own : ownKnob Try.prog.godebug = none := by kernel_rfl
theorem laidOut : laidOutB Try.prog = true := by kernel_rfl
theorem cells46 : Try.prog.cellsOf 46 = 16 := by kernel_rfl
theorem cells3 : Try.prog.cellsOf 3 = 1 := by kernel_rfl

/-- A string beyond the law's bound: it returns at once. -/
theorem law_far (s : ByteArray) (X Y : List Value) (hX : X.length = 16) (hY : Y.length = 16) (w : World) (h : ¬ s.size ≤ 1048576) (hm : s.size ≤ maxLen) :
    Calls Try.prog 8 #[.string s, .agg X.toArray, .agg Y.toArray] w fun e w' => e = .returned (.bool true) ∧ Below w.heap.size w w' := by
  have b1 := heap_alloc2_old w (.cells X.toArray 46 (0, 0)) (.cells Y.toArray 46 (0, 0))
  have b2 := heap_alloc2_new w (.cells X.toArray 46 (0, 0)) (.cells Y.toArray 46 (0, 0))
  have r1 := range_of b1
  have r2 := range_of b2
  have i1 : (Try.prog.info? 46).map (·.size) = some X.length := by rw [hX]; exact inf46
  have i2 : (Try.prog.info? 46).map (·.size) = some Y.length := by rw [hY]; exact inf46
  have bw : Below w.heap.size w _ := ((Below.refl _ _).alloc (Nat.le_refl _) (.cells X.toArray 46 (0, 0))).alloc (by rw [size_al]; omega) (.cells Y.toArray 46 (0, 0))
  have BW : Hid _ := bw
  have R1 : Hid _ := r1
  have R2 : Hid _ := r2
  have I1 : Hid _ := i1
  have I2 : Hid _ := i2
  clear hX hY r1 r2 i1 i2 b1 b2 bw
  go_enter Try.func8, Try.ntmps8
  go_wp2_with (first | (refine wpList_load_mid rfl 46 (.tmp 4) rfl w.heap.size 0 (by kernel_rfl) X _ R1.out und46 rfl I1.out ?_) | (refine wpList_load_mid rfl 46 (.tmp 5) rfl (w.heap.size + 1) 0 (by kernel_rfl) Y _ R2.out und46 rfl I2.out ?_) | (go_at_call 24; refine (bytes_no s _ _ _ h hm).mono ?_; rintro e w1 ⟨rfl, hb1⟩; have HB1 : Hid _ := hb1; clear hb1))
  go_ret
  exact ⟨rfl, BW.out.trans (HB1.out.mono (by rw [size_al, size_al]; omega))⟩

theorem walk (s : ByteArray) (L M : List Int) (hL : L.length = 16) (hM : M.length = 16) (w : World) (hs : s.size ≤ maxLen) :
    Calls Try.prog 8 #[.string s, .agg (icells L).toArray, .agg (icells M).toArray] w fun e w' => e = .returned (.bool true) ∧ Below w.heap.size w w' := by
  by_cases h : s.size ≤ 1048576
  · have e1 : (L.zip M).map (·.1) = L := List.map_fst_zip (by omega)
    have e2 : (L.zip M).map (·.2) = M := List.map_snd_zip (by omega)
    have := law_any s (L.zip M) (by simp; omega) w h
    rw [e1, e2] at this
    exact this
  · exact law_far s _ _ (by simp [icells, hL]) (by simp [icells, hM]) w h hs

/-- An array of 16 ints that came in. -/
theorem open_arr {H : Type} {enc : TypeId × Value → H} {W : World} {base : Nat} {sp : Nat → Bool} {held : Bool} {v : Value} {d : DataW H} {p : List MemPlace} {r : Reach} {b : Nat}
    (hv : Value.okWide Try.prog W r b 46 v) (h : DataW.Trod enc Try.prog W base sp held 46 v d p) : ∃ L : List Int, L.length = 16 ∧ v = .agg (icells L).toArray := by
  simp only [Value.okWide, Try.underlying46] at hv
  obtain ⟨cs, rfl, hsz, _⟩ := hv
  rw [cells46] at hsz
  obtain ⟨fuel, hf⟩ := h
  obtain ⟨xs, m, _, _, _, hxl, hx⟩ := DataW.trod_array Try.underlying46 hf
  have hc : ∀ i, i < 16 → ∃ n : Int, cs.toList[i]? = some (.int .i64 n) := by
    intro i hi
    have := hx i hi
    rw [cells3, Nat.mul_one] at this
    rw [List.getElem?_eq_getElem (show i < xs.length by omega)] at this
    obtain ⟨n, hn, _⟩ := DataW.trod_int Try.underlying3 this
    refine ⟨n, ?_⟩
    have hh := congrArg (fun l => l[0]?) hn
    simpa [Value.cells, List.getElem?_take, List.getElem?_drop] using hh
  refine ⟨cs.toList.map intOf, by simpa using hsz, ?_⟩
  congr 1
  apply Array.ext_getElem?
  intro i
  by_cases hi : i < 16
  · obtain ⟨n, hn⟩ := hc i hi
    have hn' : cs[i]? = some (.int .i64 n) := by simpa using hn
    simp [icells, hn', intOf]
  · rw [Array.getElem?_eq_none (by omega), Array.getElem?_eq_none (by simp [icells]; omega)]

set_option maxRecDepth 100000 in
theorem lifted (os : Os) (started : os.Started) (H : Type) (enc : TypeId × Value → H) :
    ReturnsInHanded {} Try.checked os 8 .any (Rows.fnReadInlineSortsPiecesSpec.pre6 enc Try.prog Try.f8 Rows.fnReadInlineSortsPiecesRow.domain false) (Rows.fnReadInlineSortsPiecesSpec.post enc Try.prog Try.f8 false true false false) := by
  refine returnsInHanded_of_change (C := Try.checked) own started (by kernel_rfl) Try.func8
    (ChangeSpec.witness6 (enc := enc) (C := Try.checked) false ⟨#[], #[.string ByteArray.empty, .agg (icells (List.replicate 16 0)).toArray, .agg (icells (List.replicate 16 0)).toArray], []⟩ 8 (by kernel_rfl) (by kernel_rfl) (by kernel_rfl) (by kernel_rfl)) ?_
  intro W base args ds gs before hval0 hW hcnd _
  have hval : ∀ (j : Nat) t v, Try.f8.params[j]? = some t → args[j]? = some v → Value.okWide Try.prog W .any base t v := hval0
  have hW' := hW
  obtain ⟨p, q, hA0, hV, rfl, hfz, hnd⟩ := hW
  have hA : DataW.TrodAll enc Try.prog W 0 (fun _ => true) true Try.f8.params.toList args.toList ds p := hA0
  rw [Try.params8] at hA hval
  obtain ⟨v0, vs0, d0, ds0, p0, q0, hargs, rfl, rfl, h0, r0⟩ := trodAll_cons hA
  obtain ⟨v1, vs1, d1, ds1, p1, q1, rfl, rfl, rfl, h1, r1⟩ := trodAll_cons r0
  obtain ⟨v2, vs2, d2, ds2, p2, q2, rfl, rfl, rfl, h2, r2⟩ := trodAll_cons r1
  obtain ⟨rfl, rfl, rfl⟩ := trodAll_nil r2
  obtain rfl : args = #[v0, v1, v2] := by cases args; simp_all
  obtain ⟨rfl, rfl⟩ := trodVars_none hV
  have k1 := h1
  have k2 := h2
  have lt1 : ∀ x ∈ p1, x.block < W.heap.size := by obtain ⟨m, hm⟩ := k1; exact DataW.trod_lt m _ _ _ hm
  have lt2 : ∀ x ∈ p2, x.block < W.heap.size := by obtain ⟨m, hm⟩ := k2; exact DataW.trod_lt m _ _ _ hm
  obtain ⟨s, rfl, rfl, rfl, hs⟩ := open_string Try.underlying9 (hval 0 9 v0 rfl rfl) h0
  obtain ⟨L, hL, rfl⟩ := open_arr (hval 1 46 v1 rfl rfl) h1
  obtain ⟨M, hM, rfl⟩ := open_arr (hval 2 46 v2 rfl rfl) h2
  clear hA0 hval0
  refine (walk s L M hL hM W hs).mono fun e W' ⟨he, bel⟩ => ?_
  subst he
  exact ⟨_, rfl, _, _, _, [], _, [], hW', trodAll_mk1 (shut_bool Try.underlying4 _), (trodAll_cons_mk (shut_string Try.underlying9 hs) (trodAll_cons_mk (Below.trod laidOut (by kernel_rfl) (of_decide_eq_true (by kernel_rfl)) k1 bel lt1) (trodAll_cons_mk (Below.trod laidOut (by kernel_rfl) (of_decide_eq_true (by kernel_rfl)) k2 bel lt2) trodAll_mk0))), rfl, bel.frame _, fun h => by cases h⟩

theorem over : Rows.fnReadInlineSortsPiecesRow.holds Try.pinned (OpenSpec.ofChange Rows.fnReadInlineSortsPiecesSpec) :=
  OpenClaim.holds_of_wide 8 Try.f8 rfl rfl rfl rfl rfl rfl rfl ⟨rfl, rfl, rfl, rfl, rfl⟩ rfl rfl rfl rfl rfl (by kernel_rfl) Try.func8 (by kernel_rfl)
    (of_decide_eq_true (by kernel_rfl)) (by unfold Func.isWrapper; first | (rw [if_pos (by decide +kernel)]; kernel_rfl) | (rw [if_neg (by decide +kernel)]; exact ⟨rfl, rfl⟩))
    (fun os started H enc _ => lifted os started H enc)

/-- THE STATEMENT -/
theorem proved : Rows.FnReadInlineSortsPiecesSaid := over
#print axioms proved
end Go.Proofs.Qxb6603421a.fnReadInlineSortsPieces
