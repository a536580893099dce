import Derived.Test.Qxb6603449aRd
import Derived.Laws.OwnMore
namespace Go.Proofs.Qxb6603449a.BL
open Go.RowKit Go.ChangeMaps Go.MapKept
set_option linter.unusedVariables false
set_option linter.unusedSimpArgs false

/-! ### reachUp -/
inductive Up (P : St → List St) : St → St → Prop where
  | refl (x : St) : Up P x x
  | step {x p y : St} (hp : p ∈ P x) (h : Up P p y) : Up P x y
theorem Up.trans {P : St → List St} {x y z : St} (h : Up P x y) (k : Up P y z) : Up P x z := by
  induction h with
  | refl => exact k
  | step hp _ ih => exact Up.step hp (ih k)
theorem Up.snoc {P : St → List St} {x y z : St} (h : Up P x y) (k : z ∈ P y) : Up P x z := h.trans (Up.step k (Up.refl z))
theorem up_in {P : St → List St} {F : List St} (hc : ∀ x ∈ F, ∀ p ∈ P x, p ∈ F) {x y : St} (h : Up P x y) (hx : x ∈ F) : y ∈ F := by
  induction h with
  | refl => exact hx
  | step hp _ ih => exact ih (hc _ hx _ hp)
structure Upw (P : St → List St) (name : St) (Nd : List St) (k : Nat) : Prop where
  nodup : Nd.Nodup
  mem : name ∈ Nd
  sub : ∀ y ∈ Nd, Up P name y
  clo : ∀ i, i < k → i < Nd.length → ∀ p ∈ P (Nd.getD i ByteArray.empty), p ∈ Nd
structure UpIn (P : St → List St) (name : St) (Nd : List St) (k j : Nat) : Prop where
  u : Upw P name Nd k
  lt : k < Nd.length
  part : ∀ t, t < j → t < (P (Nd.getD k ByteArray.empty)).length → (P (Nd.getD k ByteArray.empty)).getD t ByteArray.empty ∈ Nd
section
variable {P : St → List St} {name : St} {Nd : List St} {k j : Nat}
theorem getD_app {l m : List St} {i : Nat} (h : i < l.length) : (l ++ m).getD i ByteArray.empty = l.getD i ByteArray.empty := by
  rw [List.getD_eq_getElem?_getD, List.getElem?_append_left h, ← List.getD_eq_getElem?_getD]
theorem upw_start : Upw P name [name] 0 := ⟨by simp, by simp, fun y hy => by rw [List.mem_singleton] at hy; rw [hy]; exact Up.refl _, fun i hi => by omega⟩
theorem Upw.into (h : Upw P name Nd k) (hk : k < Nd.length) : UpIn P name Nd k 0 := ⟨h, hk, fun t ht => by omega⟩
theorem UpIn.old (h : UpIn P name Nd k j) (hm : (P (Nd.getD k ByteArray.empty)).getD j ByteArray.empty ∈ Nd) : UpIn P name Nd k (j + 1) := ⟨h.u, h.lt, fun t ht hl => by
  by_cases e : t = j
  · rw [e]; exact hm
  · exact h.part t (by omega) hl⟩
theorem UpIn.new (h : UpIn P name Nd k j) (hj : j < (P (Nd.getD k ByteArray.empty)).length) {m : St} (hm : (P (Nd.getD k ByteArray.empty)).getD j ByteArray.empty = m) (hn : m ∉ Nd) : UpIn P name (Nd ++ [m]) k (j + 1) := by
  have hk := h.lt
  have e0 := getD_app (m := [m]) hk
  refine ⟨⟨?_, by simp [h.u.mem], fun y hy => ?_, fun i hi hl p hp => ?_⟩, by simp; omega, fun t ht hl => ?_⟩
  · rw [List.nodup_append]
    refine ⟨h.u.nodup, by simp, fun a ha b hb => ?_⟩
    rw [List.mem_singleton] at hb
    rw [hb]; exact fun c => hn (by rw [← c]; exact ha)
  · rcases List.mem_append.1 hy with c | c
    · exact h.u.sub y c
    · rw [List.mem_singleton] at c
      rw [c, ← hm]
      exact (h.u.sub _ (getD_mem hk)).snoc (getD_mem hj)
  · have hi2 : i < Nd.length := by omega
    rw [getD_app hi2] at hp
    exact List.mem_append.2 (Or.inl (h.u.clo i hi hi2 p hp))
  · rw [e0] at hl ⊢
    by_cases e : t = j
    · rw [e, hm]; simp
    · exact List.mem_append.2 (Or.inl (h.part t (by omega) hl))
theorem UpIn.out (h : UpIn P name Nd k j) (hj : (P (Nd.getD k ByteArray.empty)).length ≤ j) : Upw P name Nd (k + 1) := ⟨h.u.nodup, h.u.mem, h.u.sub, fun i hi hl p hp => by
  by_cases e : i = k
  · rw [e] at hp
    obtain ⟨t, ht, e2⟩ := mem_getD hp
    rw [← e2]; exact h.part t (by omega) ht
  · exact h.u.clo i (by omega) hl p hp⟩
theorem Upw.all (h : Upw P name Nd k) (hk : Nd.length ≤ k) : ∀ y, y ∈ Nd ↔ Up P name y := fun y => ⟨h.sub y, fun hu => up_in (fun x hx p hp => by
  obtain ⟨i, hi, e⟩ := mem_getD hx
  rw [← e] at hp
  exact h.clo i (by omega) hi p hp) hu h.mem⟩
end
/-- What reachUp holds in memory. -/
structure Un (w wr : World) (bm : Nat) (nv : Value) (Nd : List St) : Prop where
  fm : atM wr bm (bools Nd)
  own : wr.ownsRow w.heap.size 9 1 nv Nd.length (Nd.map Value.string)
  nf : nv.ownBlock ≠ some bm
  lf : w.heap.size ≤ bm
  below : Below w.heap.size w wr
section
variable {w wr wq : World} {bm : Nat} {nv : Value} {Nd : List St}
theorem Un.put (h : Un w wr bm nv Nd) (m : St) (cells : List Value) (hc : cells = (Nd.map Value.string)) : atM (putM wr bm (bools (Nd ++ [m]))) bm (bools (Nd ++ [m])) ∧ (putM wr bm (bools (Nd ++ [m]))).ownsRow w.heap.size 9 1 nv Nd.length cells ∧ Below w.heap.size w (putM wr bm (bools (Nd ++ [m]))) :=
  ⟨putM_same (atM_lt h.fm) _, by rw [hc]; exact h.own.kept (putM_grown _ _ _) (Or.inr h.nf), below_grown h.below (putM_grown _ _ _) h.below.size (fun k hk => by injection hk with hk; rw [← hk]; exact h.lf)⟩
end
theorem wpList_push9 {w : World} {ops : Array Oper} {rest : List Oper} {o : Oper} {a : Act} {Q : Exit → Act → World → Prop} (hgd : o.guard = none) (s x : Operand)
    (ho : o.op = .call { callee := .builtin .append, args := #[s, x], argTypes := #[24, 24] }) (base n : Nat) (v p : Value) (xs : List Value) (hs : a.eval s = v) (hown : w.ownsRow base 9 1 v n xs) (B : Nat) (hx : a.eval x = .slice (some ⟨B, 0, none⟩) 1 1)
    (hB : w.heap[B]? = some (.cells #[p] 9 (0, 0))) (h1 : p.oneCell' = true) (hn : n ≤ 1048576) (hbase : base ≤ w.heap.size)
    (h : ∀ g cap w', w'.ownsRow base 9 1 (.slice (some ⟨g, 0, none⟩) (n + 1) cap) (n + 1) (xs ++ [p]) → w.grownBy w' v.ownBlock → (v.ownBlock = some g ∨ g = w.heap.size) → wpList Try.prog ops Q rest (a.put o.dst (.slice (some ⟨g, 0, none⟩) (n + 1) cap)) w') :
    wpList Try.prog ops Q (o :: rest) a w := by
  obtain ⟨i, hi, hz0, hz1, hz2⟩ := info_parts info9
  refine wpList_append_lies w hgd s x 24 ho base 9 i _ 1 16 Try.underlying24 hi hz0 hz1 hz2 rfl (by omega) v n xs hs hown ⟨B, 0, none⟩ 1 1 [p] hx (by simp) (World.news_of_block hB) (fun u hu => by rw [List.mem_singleton] at hu; rw [hu]; exact h1) (by omega) (by unfold maxLen; omega) (by omega) hbase _ rfl ?_
  intro g cap w' h2 h3 h4 h5
  exact h g cap w' h2 h3 h4
theorem blk_new9 {w w1 : World} {B : Nat} {o : Obj} (h : w1 = w.alloc o) (hB : B = w.heap.size) : w1.heap[B]? = some o := by rw [h, hB]; exact heap_alloc_new w o
theorem PRd.look2 {w wr : World} {pb : Nat} {P : St → List St} (h : PRd w pb P) (hb : Below w.heap.size w wr) (x : St) : ∃ ao cap, (Instr.lookup 39 (.map (some pb)) (.string x) false).run Try.prog wr = .ok (.slice ao (P x).length cap) wr ∧ (ao = none → P x = [] ∧ cap = 0) ∧ StrRd w ao (P x) := by
  obtain ⟨L, h1, h2⟩ := h
  obtain ⟨ao, cap, h3, h4, h5⟩ := h2 x
  refine ⟨ao, cap, ?_, h4, h5⟩
  have := look_any 39 24 Try.underlying39 _ (zero24 _) ((hb.block _ (atM_lt h1)).trans h1 : atM wr pb L) x
  rw [this]
  unfold atv at h3
  rw [h3]
theorem own_str {w : World} {base n g cap : Nat} {S : List St} (h : w.ownsRow base 9 1 (.slice (some ⟨g, 0, none⟩) n cap) n (S.map Value.string)) {k : Nat} (hk : k < S.length) (hn : n = S.length) : w.cell? ⟨g, k, none⟩ = some (.string (S.getD k ByteArray.empty)) := by
  rw [h.cellAt k (by omega), List.getElem?_map, List.getElem?_eq_getElem hk, List.getD_eq_getElem?_getD, List.getElem?_eq_getElem hk]
  rfl
theorem Un.push {w wr w1 wq : World} {bm : Nat} {nv : Value} {Nd : List St} (h : Un w wr bm nv Nd) (m : St) (hw1 : w1 = (putM wr bm (bools (Nd ++ [m]))).alloc (.cells #[.string m] 9)) (g cap : Nat) (hown : wq.ownsRow w.heap.size 9 1 (.slice (some ⟨g, 0, none⟩) (Nd.length + 1) cap) (Nd.length + 1) (Nd.map Value.string ++ [.string m])) (hg : w1.grownBy wq nv.ownBlock) (hat : nv.ownBlock = some g ∨ g = w1.heap.size) :
    Un w wq bm (.slice (some ⟨g, 0, none⟩) (Nd ++ [m]).length cap) (Nd ++ [m]) := by
  obtain ⟨p1, p2, p3⟩ := h.put m _ rfl
  have q1 : atM w1 bm (bools (Nd ++ [m])) := by rw [hw1]; exact atM_alloc p1 _
  have q3 : Below w.heap.size w w1 := by rw [hw1]; exact p3.alloc p3.size _
  refine ⟨atM_grown q1 hg h.nf, by simpa using hown, ?_, h.lf, below_grown q3 hg q3.size (own_blk h.own)⟩
  simp only [Value.ownBlock, ne_eq, Option.some.injEq]
  intro c
  rcases hat with d | d
  · exact h.nf (by rw [d, c])
  · have := atM_lt q1; omega
def UpPost (P : St → List St) (name : St) (w : World) (e : Ending) (w' : World) : Prop := ∃ ao cap Nd, e = .returned (.slice ao Nd.length cap) ∧ Nd.Nodup ∧ (∀ y, y ∈ Nd ↔ Up P name y) ∧ StrRd w' ao Nd ∧ (ao = none → Nd.length = 0) ∧ Below w.heap.size w w'
set_option maxRecDepth 100000 in
set_option maxHeartbeats 8000000 in
theorem up_any (P : St → List St) (name : St) (pb M : Nat) (w : World) (hP : ∀ x, (P x).length ≤ 1048576) (hM : ∀ F : List St, F.Nodup → (∀ y ∈ F, Up P name y) → F.length ≤ M) (hM2 : M ≤ 1000000) (hr : PRd w pb P) :
    Calls Try.prog 24 #[.map (some pb), .string name] w fun e w' => UpPost P name w e w' := by
  have hmm := @run_makeMap Try.prog
  obtain ⟨w1, hw1⟩ : ∃ w1, w1 = (w.alloc (.cells #[.string name] 9)).alloc (.map #[] 0) := ⟨_, rfl⟩
  obtain ⟨w2, hw2⟩ : ∃ w2, w2 = putM w1 (w.heap.size + 1) (bools [name]) := ⟨_, rfl⟩
  have hm1 : atM w1 (w.heap.size + 1) [] := by
    have := atM_made (w.alloc (.cells #[.string name] 9)); rw [hw1]; simpa using this
  have up0 : (Instr.mapUpdate 29 (.map (some (w.heap.size + 1))) (.string name) (.bool true)).run Try.prog w1 = .ok () w2 := by
    rw [hw2]; exact upd_none 29 4 Try.underlying29 hm1 name _ rfl
  have hUn : Un w w2 (w.heap.size + 1) (.slice (some ⟨w.heap.size, 0, none⟩) 1 1) [name] := by
    have o1 : w1.ownsRow w.heap.size 9 1 (.slice (some ⟨w.heap.size, 0, none⟩) 1 1) 1 [.string name] := by
      rw [hw1]; exact (World.ownsRow_lit w #[.string name] 1 (Nat.le_refl _) (by unfold maxLen; omega) (by rfl)).alloc _
    refine ⟨by rw [hw2]; exact putM_same (atM_lt hm1) _, by rw [hw2]; exact o1.kept (putM_grown _ _ _) (Or.inr (by simp [Value.ownBlock])), by simp [Value.ownBlock], by omega, ?_⟩
    rw [hw2, hw1]
    exact (((Below.refl _ _).alloc (Nat.le_refl _) _).alloc (by simp) _).trans (putM_below _ _ _ _ (by omega))
  have H0 : Hid _ := hUn
  have HUP0 : Hid _ := up0
  have HW1 : Hid _ := hw1
  have HP : Hid (∀ x, (P x).length ≤ 1048576) := hP
  have HM : Hid (∀ F : List St, F.Nodup → (∀ y ∈ F, Up P name y) → F.length ≤ M) := hM
  have HR : Hid (PRd w pb P) := hr
  clear hUn up0 hw2 hm1 hP hM hr
  go_enter Try.func24, Try.ntmps24
  go_upto_region 3 with fail
  rw [← hw1]
  clear hw1
  go_wp2_with (at_mapUpdate; refine wpList_upd rfl _ _ _ 29 rfl (w.heap.size + 1) name (.bool true) w2 rfl rfl rfl HUP0.out ?_)
  go_loopw [5, 7] (fun v5 v7 wx => ∃ (ao : Option Addr) (cap k : Nat) (Nd : List St), v5 = .slice ao Nd.length cap ∧ v7 = .int .i64 k ∧ k ≤ Nd.length ∧ Hid (Upw P name Nd k) ∧ Hid (Un w wx (w.heap.size + 1) (.slice ao Nd.length cap) Nd)) (fun _ v7 _ => M + 1 - (intOf v7).toNat)
  case atStart => exact ⟨_, _, 0, [name], rfl, rfl, by omega, upw_start, H0⟩
  case round =>
    clear H0
    obtain ⟨ao, cap, k, Nd, rfl, rfl, hk, huw, hun⟩ := hrel
    have hNM := HM.out Nd huw.out.nodup huw.out.sub
    by_cases hkn : k < Nd.length
    · have hkn' : (k : Int) < (Nd.length : Int) := by omega
      obtain ⟨g, cap2, e1, hg1, hg2, _⟩ := own_some hun.out.own (by omega)
      injection e1 with e1 e2 e3
      subst e1
      have c1 := hun.out.own.cellAt k (by omega)
      rw [List.getElem?_map, List.getElem?_eq_getElem hkn] at c1
      obtain ⟨x, hx⟩ : ∃ x, Nd.getD k ByteArray.empty = x := ⟨_, rfl⟩
      have hx2 : Nd[k] = x := by rw [← hx, List.getD_eq_getElem?_getD, List.getElem?_eq_getElem hkn]; rfl
      rw [hx2] at c1
      simp only [Option.map_some] at c1
      obtain ⟨ai, ci, lk, hai, hst⟩ := HR.out.look2 hun.out.below x
      have HLK : Hid _ := lk
      have HST : Hid (StrRd w ai (P x)) := hst
      have HX : Hid _ := hx
      have hlP := HP.out x
      obtain ⟨l, hl⟩ : ∃ l, (P x).length = l := ⟨_, rfl⟩
      rw [hl] at HLK hlP
      have HL : Hid _ := hl
      have HIN : Hid (UpIn P name Nd k 0) := huw.out.into hkn
      clear e2 e3 hx hx2 lk hai hst hl huw
      go_wp2_with (at_lookup; refine wpList_look rfl _ _ 39 false rfl pb x rfl rfl _ HLK.out ?_)
      go_loopw [5, 9] (fun v5 v9 wx => ∃ (ao : Option Addr) (cap j : Nat) (Nd1 : List St), v5 = .slice ao Nd1.length cap ∧ v9 = .int .i64 j ∧ j ≤ l ∧ Hid (UpIn P name Nd1 k j) ∧ Hid (Nd1.getD k ByteArray.empty = x) ∧ Hid (Un w wx (w.heap.size + 1) (.slice ao Nd1.length cap) Nd1)) (fun _ v9 _ => l - (intOf v9).toNat)
      case atStart => exact ⟨_, _, 0, Nd, rfl, rfl, by omega, HIN, HX, hun⟩
      case round =>
        clear HIN HX hun c1 HLK hNM
        obtain ⟨ao, cap, j, Nd1, rfl, rfl, hj, hin, hx, hun⟩ := hrel
        have hNM := HM.out Nd1 hin.out.u.nodup hin.out.u.sub
        by_cases hjl : j < l
        · have hjl' : (j : Int) < (l : Int) := by omega
          obtain ⟨bs, os, hai, hbs, hcs⟩ := HST.out.at_ (i := j) (by rw [HL.out]; exact hjl)
          subst hai
          have c2 := (hun.out.below.cell (p := ⟨bs, os + j, none⟩) hbs).trans hcs
          obtain ⟨m, hm⟩ : ∃ m, (P x).getD j ByteArray.empty = m := ⟨_, rfl⟩
          rw [hm] at c2
          obtain ⟨t, ht⟩ : ∃ t, t = decide (m ∈ Nd1) := ⟨_, rfl⟩
          have lk := look29 hun.out.fm m t ht
          have HLK : Hid _ := lk
          have HM1 : Hid _ := hm
          have HT : Hid _ := ht
          clear lk hm ht hcs
          cases t
          · have hnot : m ∉ Nd1 := by have := HT.out; simpa using this.symm
            have up := upd_none 29 4 Try.underlying29 hun.out.fm m (.bool true) (get_out hnot)
            rw [bools_snoc] at up
            obtain ⟨p1, p2, p3⟩ := hun.out.put m _ rfl
            have HIN : Hid (UpIn P name (Nd1 ++ [m]) k (j + 1)) := hin.out.new (by rw [hx.out, HL.out]; exact hjl) (by rw [hx.out]; exact HM1.out) hnot
            have HX2 : Hid ((Nd1 ++ [m]).getD k ByteArray.empty = x) := by unfold Hid; rw [getD_app hin.out.lt]; exact hx.out
            obtain ⟨w2, hw2⟩ : ∃ w2, w2 = putM wr (w.heap.size + 1) (bools (Nd1 ++ [m])) := ⟨_, rfl⟩
            rw [← hw2] at up p2 p3
            have c3 : w2.cell? ⟨bs, os + j, none⟩ = some (.string m) := by
              rw [hw2]; exact (World.cell?_of_block (putM_other wr _ bs _ (by have := hun.out.below.size; omega))).trans c2
            have HOWN : Hid _ := p2.alloc (.cells #[.string m] 9)
            have hz := p3.size
            have HPU : Hid (∀ w1 wq g cap2, _ → _ → _ → _ → _) := fun w1 wq g cap2 hw1 => hun.out.push (w1 := w1) (wq := wq) m hw1 g cap2
            have HW2 : Hid _ := hw2
            have HUP : Hid _ := up
            have hl1 : Nd1.length ≤ 1048576 := by omega
            clear p1 p2 p3 up hnot hun hin hx hw2
            generalize hN1 : Nd1.length = N1 at *
            go_wp2_with (first | (at_lookup; refine wpList_look rfl _ _ 29 false rfl (w.heap.size + 1) m rfl rfl _ HLK.out ?_) | (at_mapUpdate; refine wpList_upd rfl _ _ _ 29 rfl (w.heap.size + 1) m (.bool true) w2 rfl rfl rfl HUP.out ?_) | (at_builtin; go_loud (refine wpList_push9 rfl _ _ rfl w.heap.size N1 _ (.string m) _ rfl HOWN.out _ rfl (blk_new9 rfl rfl) rfl (by omega) (by simp; omega) ?_); intro g2 cap3 w3 hown hgr hat; have HUN : Hid _ := HPU.out _ w3 g2 cap3 (by rw [HW2.out]) hown hgr hat; clear hown hgr hat))
            go_roundw
            case rel => exact ⟨_, cap3, j + 1, Nd1 ++ [m], by simp [hN1], by go_num, by omega, HIN, HX2, HUN⟩
            case measure => simp [intOf]; omega
          · have HIN : Hid (UpIn P name Nd1 k (j + 1)) := hin.out.old (by rw [hx.out, HM1.out]; have := HT.out; simpa using this.symm)
            clear hin
            go_wp2_with (at_lookup; refine wpList_look rfl _ _ 29 false rfl (w.heap.size + 1) m rfl rfl _ HLK.out ?_)
            go_roundw
            case rel => exact ⟨ao, cap, j + 1, Nd1, rfl, by go_num, by omega, HIN, hx, hun⟩
            case measure => simp [intOf]; omega
        · have hjl' : ¬ (j : Int) < (l : Int) := by omega
          have HU2 : Hid (Upw P name Nd1 (k + 1)) := hin.out.out (by rw [hx.out, HL.out]; omega)
          have hkl := hin.out.lt
          clear hin hx
          go_wp2
          go_roundw
          case rel => exact ⟨ao, cap, k + 1, Nd1, rfl, by go_num, by omega, HU2, hun⟩
          case measure => simp [intOf]; omega
    · have hkn' : ¬ (k : Int) < (Nd.length : Int) := by omega
      have HALL : Hid (∀ y, y ∈ Nd ↔ Up P name y) := huw.out.all (by omega)
      have HND : Hid Nd.Nodup := huw.out.nodup
      have hne : Nd.length ≠ 0 := by
        have := huw.out.mem
        intro c
        rw [List.eq_nil_of_length_eq_zero c] at this; simp at this
      clear huw
      go_wp2
      go_ret
      obtain ⟨g, cap2, e1, hg1, hg2, _⟩ := own_some hun.out.own hne
      injection e1 with e1 e2 e3
      subst e1
      refine ⟨_, cap, Nd, rfl, HND.out, HALL.out, Or.inr ⟨g, 0, rfl, hg2, fun i hi => ?_⟩, (fun c => by cases c), hun.out.below⟩
      rw [Nat.zero_add]; exact own_str hun.out.own hi rfl
end Go.Proofs.Qxb6603449a.BL
