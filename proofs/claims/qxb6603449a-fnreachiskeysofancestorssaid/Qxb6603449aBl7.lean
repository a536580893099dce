import Derived.Test.Qxb6603449aBl6
namespace Go.Proofs.Qxb6603449a.BL
open Go.RowKit Go.ChangeMaps
set_option linter.unusedVariables false
set_option linter.unusedSimpArgs false

theorem wpList_look_w {w : World} {ops : Array Oper} {rest : List Oper} {o : Oper} {a : Act} {Q : Exit → Act → World → Prop} (hw : Region.wanted o (yielded ops a.tmps) = true) (m x : Operand) (t : TypeId) (c : Bool) (hop : o.op = .lookup t m x c) (b : Nat) (s : St) (hm : a.eval m = .map (some b)) (hx : a.eval x = .string s) (r : Value)
    (hrun : (Instr.lookup t (.map (some b)) (.string s) c).run Try.prog w = .ok r w) (h : wpList Try.prog ops Q rest (a.put o.dst r) w) : wpList Try.prog ops Q (o :: rest) a w := by
  refine wpList_step fun K hK => ?_
  rw [if_pos hw]
  unfold Oper.wp
  simp [execOp, hop, hm, hx, hrun, Result.andThen]
  exact hK _ _ h
theorem tl_inj {x y : St} (h : x.toList = y.toList) : x = y := by
  rw [ByteArray.toList_eq, ByteArray.toList_eq] at h
  cases x; cases y
  congr
  exact Array.ext' h
/-! ### belowModel -/
def MoPost (N : List St) (Ms : List (List St)) (name : St) (w : World) (e : Ending) (w' : World) : Prop := ∃ bf H, e = .returned (.tuple #[.map (some bf), .int .i64 (H.length : Nat)]) ∧ atM w' bf (bools H) ∧ H.Nodup ∧ (∀ x, x ∈ H ↔ Rch N Ms name x) ∧ Below w.heap.size w w'
def upto (Ms : List (List St)) (i : Nat) : Nat := (Ms.take i).flatten.length
theorem upto_succ (Ms : List (List St)) (i : Nat) (h : i < Ms.length) : upto Ms (i + 1) = upto Ms i + (mm Ms i).length := by
  unfold upto mm
  rw [List.take_succ_eq_append_getElem h, List.flatten_append]
  simp [h]
theorem upto_le (Ms : List (List St)) (i : Nat) : upto Ms i ≤ tot Ms := by
  unfold upto tot
  have e : Ms.flatten = (Ms.take i).flatten ++ (Ms.drop i).flatten := by rw [← List.flatten_append, List.take_append_drop]
  rw [e]; simp
theorem upto_all (Ms : List (List St)) : upto Ms Ms.length = tot Ms := by unfold upto tot; rw [List.take_length]
theorem lookN {N : List St} {NM : List (St × Value)} {i b : Nat} {w : World} (hN : Nmd N (fun _ => Value.bool true) NM i) (h : atM w b NM) (x : St) :
    ∃ t, (Instr.lookup 29 (.map (some b)) (.string x) false).run Try.prog w = .ok (.bool t) w ∧ ((t = true ∧ ∃ v, get NM x = some v) ∨ (t = false ∧ get NM x = none)) := by
  cases hg : get NM x with
  | none => exact ⟨false, look_none 29 4 Try.underlying29 _ (zero4 _) h x hg false, Or.inr ⟨rfl, rfl⟩⟩
  | some v =>
    obtain ⟨k, _, _, _, rfl⟩ := hN.1 x v hg
    exact ⟨true, look_some 29 4 Try.underlying29 h x _ hg false, Or.inl ⟨rfl, _, rfl⟩⟩
/-- The first groups below i, as a row of bools. -/
def Fsts (N : List St) (fs : List Bool) (i : Nat) : Prop := fs.length = N.length ∧ ∀ k, k < N.length → (fs.getD k false = true ↔ (k < i ∧ Fst N k))
theorem fsts_zero (N : List St) : Fsts N (List.replicate N.length false) 0 := ⟨by simp, fun k hk => by simp [hk]⟩
theorem Fsts.no {N : List St} {fs : List Bool} {i : Nat} (h : Fsts N fs i) (hn : ¬ Fst N i) : Fsts N fs (i + 1) := ⟨h.1, fun k hk => by
  rw [h.2 k hk]
  constructor
  · rintro ⟨a, b⟩; exact ⟨by omega, b⟩
  · rintro ⟨a, b⟩
    by_cases e : k = i
    · rw [e] at b; exact absurd b hn
    · exact ⟨by omega, b⟩⟩
theorem Fsts.yes {N : List St} {fs : List Bool} {i : Nat} (h : Fsts N fs i) (hi : i < N.length) (hf : Fst N i) : Fsts N (fs.set i true) (i + 1) := ⟨by simp [h.1], fun k hk => by
  have e0 : (fs.set i true).getD k false = if k = i then true else fs.getD k false := by
    simp only [List.getD_eq_getElem?_getD, List.getElem?_set]
    by_cases e : i = k
    · subst e; simp [h.1, hi]
    · have e' : ¬ k = i := fun c => e c.symm
      simp [e, e']
  rw [e0]
  by_cases e : k = i
  · rw [if_pos e, e]; simp [hf]
  · rw [if_neg e, h.2 k hk]
    constructor
    · rintro ⟨a, b⟩; exact ⟨by omega, b⟩
    · rintro ⟨a, b⟩; exact ⟨by omega, b⟩⟩
theorem bool_at {fs : List Bool} {k : Nat} (h : k < fs.length) : (fs.map Value.bool)[k]? = some (.bool (fs.getD k false)) := by simp [h]
theorem bool_set (fs : List Bool) (k : Nat) : (fs.map Value.bool).set k (.bool true) = (fs.set k true).map Value.bool := by rw [List.map_set]
/-- What the first loop holds. -/
structure Ms1 (N : List St) (w wr : World) (NM : List (St × Value)) (fs : List Bool) (i : Nat) : Prop where
  nm : Nmd N (fun _ => Value.bool true) NM i
  fsts : Fsts N fs i
  m : atM wr (w.heap.size + 1) NM
  f : atR wr w.heap.size 4 (fs.map Value.bool)
  below : Below w.heap.size w wr

set_option maxRecDepth 100000 in
set_option maxHeartbeats 8000000 in
theorem model_any (N : List St) (Ms : List (List St)) (name : St) (ao am : Option Addr) (n c1 c2 : Nat) (w : World) (hn : N.length = n) (hlen : Ms.length = n) (hn4 : n ≤ 4096) (htot : tot Ms ≤ 4096)
    (hrn : StrRd w ao N) (hrm : LstRd w am Ms) :
    Calls Try.prog 17 #[.slice ao n c1, .slice am n c2, .string name] w fun e w' => MoPost N Ms name w e w' := by
  have hmm := @run_makeMap Try.prog
  have hmk := mk62 n (by omega)
  have h0 : Ms1 N w ((w.alloc (.cells (List.replicate n (.bool false)).toArray 4)).alloc (.map #[] 0)) [] (List.replicate N.length false) 0 := by
    have hs1 : (w.alloc (.cells (List.replicate n (.bool false)).toArray 4)).heap.size = w.heap.size + 1 := by simp
    refine ⟨nmd_zero N _, fsts_zero N, ?_, ?_, ((Below.refl _ _).alloc (Nat.le_refl _) _).alloc (by omega) _⟩
    · have := atM_made (w.alloc (.cells (List.replicate n (.bool false)).toArray 4)); rw [hs1] at this; exact this
    · unfold atR; rw [Below.heap_alloc _ _ _ (by omega), hn, List.map_replicate]; exact heap_alloc_new w _
  have H0 : Hid _ := h0
  have HRN : Hid (StrRd w ao N) := hrn
  have HRM : Hid (LstRd w am Ms) := hrm
  have HN : Hid _ := hn
  have HLEN : Hid _ := hlen
  have HTOT : Hid _ := htot
  clear h0 hrn hrm hn hlen htot
  go_enter Try.func17, Try.ntmps17
  go_wp2
  go_loopw [10, 11] (fun vt vi wx => ∃ (i tt : Nat) (NM : List (St × Value)) (fs : List Bool), vt = .int .i64 tt ∧ vi = .int .i64 i ∧ i ≤ n ∧ tt ≤ 4096 ∧ Hid (tt = upto Ms i) ∧ Hid (Ms1 N w wx NM fs i))
    (fun _ vi _ => n - (intOf vi).toNat)
  case atStart => exact ⟨0, 0, [], _, rfl, rfl, by omega, by omega, rfl, H0⟩
  case round =>
    clear H0
    obtain ⟨i, tt, NM, fs, rfl, rfl, hi, htt, hup, hst⟩ := hrel
    by_cases hil : i < n
    · have hil' : (i : Int) < (n : Int) := by omega
      obtain ⟨b, off, hao, hbl, hc⟩ := HRN.out.at_ (i := i) (by rw [HN.out]; exact hil)
      subst hao
      obtain ⟨bm, om, ai, ci, ham, hbm, hcm, _, _⟩ := HRM.out.at_ (i := i) (by rw [HLEN.out]; exact hil)
      subst ham
      have k1 := (hst.out.below.cell (p := ⟨b, off + i, none⟩) hbl).trans hc
      have k2 := (hst.out.below.cell (p := ⟨bm, om + i, none⟩) hbm).trans hcm
      have hus := upto_succ Ms i (by rw [HLEN.out]; exact hil)
      have hule := upto_le Ms (i + 1)
      have hT := HTOT.out
      obtain ⟨x, hx⟩ : ∃ x, x = nm N i := ⟨_, rfl⟩
      have hx2 : N.getD i ByteArray.empty = x := by rw [hx]; rfl
      rw [hx2] at k1
      obtain ⟨l, hl⟩ : ∃ l, (mm Ms i).length = l := ⟨_, rfl⟩
      rw [hl] at k2 hus
      have ht2 : tt + l ≤ 4096 := by have := hup.out; omega
      have HUS : Hid (tt + l = upto Ms (i + 1)) := by unfold Hid; have := hup.out; omega
      obtain ⟨t, lk, ht⟩ := lookN hst.out.nm hst.out.m x
      have HLK : Hid _ := lk
      have HX : Hid _ := hx
      clear hus hule hT hl hx2 lk hc hcm
      rcases ht with ⟨rfl, v, hv⟩ | ⟨rfl, hv⟩
      · rw [hx] at hv
        obtain ⟨hnf, hnm⟩ := hst.out.nm.old hv
        have HS2 : Hid (Ms1 N w wr NM fs (i + 1)) := ⟨hnm, hst.out.fsts.no hnf, hst.out.m, hst.out.f, hst.out.below⟩
        clear hv hnf hnm hx hst
        go_wp2_with (at_lookup; refine wpList_look rfl _ _ 29 false rfl (w.heap.size + 1) x rfl rfl _ HLK.out ?_)
        go_roundw
        case rel => exact ⟨i + 1, tt + l, NM, fs, by go_num, by go_num, by omega, by omega, HUS, HS2⟩
        case measure => simp [intOf]; omega
      · obtain ⟨w2, hw2⟩ : ∃ w2, w2 = putM wr (w.heap.size + 1) (NM ++ [(x, .bool true)]) := ⟨_, rfl⟩
        have up := upd_none 29 4 Try.underlying29 hst.out.m x (.bool true) hv
        rw [← hw2] at up
        have hgr : wr.grownBy w2 (some (w.heap.size + 1)) := by rw [hw2]; exact putM_grown _ _ _
        have hm2 : atM w2 (w.heap.size + 1) (NM ++ [(x, .bool true)]) := by rw [hw2]; exact putM_same (atM_lt hst.out.m) _
        have hf2 : atR w2 w.heap.size 4 (fs.map Value.bool) := atR_grown hst.out.f hgr (by simp)
        have hb2 : Below w.heap.size w w2 := below_grown hst.out.below hgr hst.out.below.size (fun k hk => by injection hk with hk; omega)
        rw [hx] at hv
        have hf := hst.out.nm.first (by rw [HN.out]; exact hil) hv
        have hnm := hst.out.nm.add (by rw [HN.out]; exact hil) hv
        rw [← hx] at hnm
        have hfl : i < fs.length := by rw [hst.out.fsts.1, HN.out]; exact hil
        have d1 := atR_at hf2 i _ (bool_at hfl)
        generalize fs.getD i false = fi at d1
        have f1 := atR_fr hf2 i
        have k3 : w2.cell? ⟨bm, om + i, none⟩ = some (.slice ai l ci) := (World.cell?_of_block (hgr.block bm (by have := hst.out.below.size; omega) (by simp; omega))).trans k2
        have HS2 : Hid (Ms1 N w (w2.setCell ⟨w.heap.size, i, none⟩ (.bool true)) (NM ++ [(x, .bool true)]) (fs.set i true) (i + 1)) := by
          refine ⟨hnm, hst.out.fsts.yes (by rw [HN.out]; exact hil) hf, ?_, ?_, hb2.setCell (Nat.le_refl _) _⟩
          · unfold atM; rw [heap_setCell_other _ _ _ _ (by simp)]; exact hm2
          · have := atR_set hf2 i (.bool true); rw [bool_set] at this; exact this
        have HUP : Hid _ := up
        have ne1 : bm ≠ w.heap.size := by omega
        have ne2 : w.heap.size ≠ bm := by omega
        clear up hgr hm2 hf2 hb2 hf hnm hw2 hv hx hst k2 hfl
        go_wp2_with (first | (at_lookup; refine wpList_look rfl _ _ 29 false rfl (w.heap.size + 1) x rfl rfl _ HLK.out ?_) | (at_mapUpdate; refine wpList_upd rfl _ _ _ 29 rfl (w.heap.size + 1) x (.bool true) w2 rfl rfl rfl HUP.out ?_))
        go_roundw
        case rel => exact ⟨i + 1, tt + l, _, _, by go_num, by go_num, by omega, by omega, HUS, HS2⟩
        case measure => simp [intOf]; omega
    · have hil' : ¬ (i : Int) < (n : Int) := by omega
      have hin : i = n := by omega
      have htot : tt = tot Ms := by rw [hup.out, hin, ← HLEN.out, upto_all]
      have hfs : Fsts N fs n := by rw [← hin]; exact hst.out.fsts
      obtain ⟨wM, hwM⟩ : ∃ wM, wM = wr := ⟨_, rfl⟩
      have HF : Hid (atR wM w.heap.size 4 (fs.map Value.bool)) := by unfold Hid; rw [hwM]; exact hst.out.f
      have HBM : Hid (Below w.heap.size w wM) := by unfold Hid; rw [hwM]; exact hst.out.below
      have HFS : Hid _ := hfs
      have HTT : Hid _ := htot
      have HRN2 : Hid (StrRd wM ao N) := HRN.out.on HBM.out
      have HRM2 : Hid (LstRd wM am Ms) := HRM.out.on HBM.out
      have H2 : Hid (atM (wr.alloc (.map #[] 0)) wM.heap.size (bools [])) := by unfold Hid; rw [hwM]; exact atM_made wr
      have H3 : Hid (Below wM.heap.size wM (wr.alloc (.map #[] 0))) := by unfold Hid; rw [hwM]; exact (Below.refl _ _).alloc (Nat.le_refl _) _
      rw [← hwM] at H2 H3 ⊢
      clear hfs htot hst hup hwM HRN HRM hin hmk
      go_wp2
      go_loopw [13, 14, 15] (fun vn vc vr wx => ∃ (H : List St) (c : Bool) (r : Nat), vn = .int .i64 H.length ∧ vc = .bool c ∧ vr = .int .i64 r ∧ r ≤ tt + 1 ∧ Hid (Ahead N Ms name H c r) ∧ Hid (atM wx wM.heap.size (bools H)) ∧ Hid (Below wM.heap.size wM wx))
        (fun _ _ vr _ => tt + 1 - (intOf vr).toNat)
      case atStart => exact ⟨[], true, 0, rfl, rfl, rfl, by omega, ahead_zero, H2, H3⟩
      case round =>
        clear H2 H3
        obtain ⟨H, c, r, rfl, rfl, rfl, hr, hah, hmp, hbel⟩ := hrel
        have hH4 : H.length ≤ 4096 := by have := found_le hah.out.nodup hah.out.sub; have := HTOT.out; omega
        by_cases hex : c = false ∨ tt < r
        · have hfin := hah.out.fin (hex.imp id (fun h => by rw [← HTT.out]; exact h))
          have HFIN : Hid _ := hfin
          clear hfin
          have done : Hid (MoPost N Ms name w (.returned (.tuple #[.map (some wM.heap.size), .int .i64 (H.length : Nat)])) wr) :=
            ⟨_, H, rfl, hmp.out, hah.out.nodup, HFIN.out, HBM.out.trans (hbel.out.mono HBM.out.size)⟩
          cases c
          · clear hex hah hmp hbel HFIN
            go_wp2
            go_ret2
            exact done.out
          · have hrt : tt < r := by simpa using hex
            have hrt' : decide ((r : Int) ≤ (tt : Int)) = false := by simp only [decide_eq_false_iff_not]; omega
            have hrt2 : ¬ (r : Int) ≤ (tt : Int) := by omega
            clear hex hah hmp hbel HFIN
            go_wp2
            go_ret2
            exact done.out
        · have hc : c = true := by cases c; exact absurd (Or.inl rfl) hex; rfl
          subst hc
          have hrt : r ≤ tt := by
            by_cases h : tt < r
            · exact absurd (Or.inr h) hex
            · omega
          have hrt' : decide ((r : Int) ≤ (tt : Int)) = true := by simp only [decide_eq_true_eq]; omega
          have hrt2 : (r : Int) ≤ (tt : Int) := by omega
          have hgo : Hid (Rnd N Ms name H false r 0) := hah.out.go
          clear hex hah
          go_wp2
          go_loopw [13, 14, 16] (fun vn vc vi wx => ∃ (H : List St) (c : Bool) (i : Nat), vn = .int .i64 H.length ∧ vc = .bool c ∧ vi = .int .i64 i ∧ i ≤ n ∧ Hid (Rnd N Ms name H c r i) ∧ Hid (atM wx wM.heap.size (bools H)) ∧ Hid (Below wM.heap.size wM wx))
            (fun _ _ vi _ => n - (intOf vi).toNat)
          case atStart => exact ⟨H, false, 0, rfl, rfl, rfl, by omega, hgo, hmp, hbel⟩
          case round =>
            clear hgo hmp hbel hH4
            obtain ⟨H, c, i, rfl, rfl, rfl, hi, hrnd, hmp, hbel⟩ := hrel
            have hH4 : H.length ≤ 4096 := by have := found_le hrnd.out.nodup hrnd.out.sub; have := HTOT.out; omega
            by_cases hil : i < n
            · have hil' : (i : Int) < (n : Int) := by omega
              have hiN : i < N.length := by rw [HN.out]; exact hil
              obtain ⟨b, off, hao, hbl, hcn⟩ := HRN2.out.at_ (i := i) hiN
              subst hao
              obtain ⟨bm, om, ai, ci, ham, hbm, hcm, hsi, _⟩ := HRM2.out.at_ (i := i) (by rw [HLEN.out]; exact hil)
              subst ham
              have k1 := (hbel.out.cell (p := ⟨b, off + i, none⟩) hbl).trans hcn
              have k2 := (hbel.out.cell (p := ⟨bm, om + i, none⟩) hbm).trans hcm
              have hfl : i < fs.length := by rw [HFS.out.1, HN.out]; exact hil
              have k3 := (hbel.out.cell (p := ⟨w.heap.size, i, none⟩) (atR_lt HF.out)).trans (atR_at HF.out i _ (bool_at hfl))
              have hfi := HFS.out.2 i hiN
              obtain ⟨x, hx⟩ : ∃ x, x = nm N i := ⟨_, rfl⟩
              have hx2 : N.getD i ByteArray.empty = x := by rw [hx]; rfl
              rw [hx2] at k1
              obtain ⟨l, hl⟩ : ∃ l, (mm Ms i).length = l := ⟨_, rfl⟩
              rw [hl] at k2 hcm
              have HCM : Hid _ := hcm
              have hl4 : l ≤ 4096 := by
                have h1 := upto_succ Ms i (by rw [HLEN.out]; exact hil)
                have h2 := upto_le Ms (i + 1)
                have := HTOT.out
                omega
              have HSI : Hid (StrRd wM ai (mm Ms i)) := hsi
              have HX : Hid _ := hx
              have HL : Hid _ := hl
              generalize fs.getD i false = fi at k3 hfi
              clear hcn hcm hsi hx2 hl hfl
              cases fi
              · have hnf : ¬ Fst N i := fun h => by have := hfi.2 ⟨by omega, h⟩; cases this
                have HR2 : Hid (Rnd N Ms name H c r (i + 1)) := hrnd.out.skip (Or.inl hnf)
                clear hfi hnf hrnd hx
                go_wp2
                go_roundw
                case rel => exact ⟨H, c, i + 1, rfl, rfl, by go_num, by omega, HR2, hmp, hbel⟩
                case measure => simp [intOf]; omega
              · have hf : Fst N i := (hfi.1 rfl).2
                clear hfi
                obtain ⟨t, ht⟩ : ∃ t, t = decide (x ∈ H) := ⟨_, rfl⟩
                have lk := look29 hmp.out x t ht
                have HLK : Hid _ := lk
                have HTI : Hid _ := ht
                clear lk ht
                by_cases hsk : x ≠ name ∧ t = false
                · obtain ⟨hxn, rfl⟩ := hsk
                  have hbn : (x.toList == name.toList) = false := by simpa using fun h => hxn (tl_inj h)
                  have hbn2 : ¬ x.toList = name.toList := fun h => hxn (tl_inj h)
                  have HR2 : Hid (Rnd N Ms name H c r (i + 1)) := hrnd.out.skip (Or.inr (by
                    rw [← hx]
                    rintro (h | h)
                    · exact hxn h
                    · have := HTI.out; simp [h] at this))
                  have HXN : Hid _ := hxn
                  clear hx hrnd hxn
                  go_wp2_with (at_lookup; go_loud (refine wpList_look_w (by rfl) _ _ 29 false rfl _ x rfl rfl _ HLK.out ?_))
                  go_roundw
                  case rel => exact ⟨H, c, i + 1, rfl, rfl, by go_num, by omega, HR2, hmp, hbel⟩
                  case measure => simp [intOf]; omega
                · have hin0 : Hid (RndIn N Ms name H c r i 0) := hrnd.out.into hf (by
                    rw [← hx]
                    by_cases h : x = name
                    · exact Or.inl h
                    · right
                      cases t
                      · exact absurd ⟨h, rfl⟩ hsk
                      · have := HTI.out; simpa using this.symm)
                  clear hrnd hx hf
                  go_upto_region 22 with fail
                  go_cut [85] from 60 to 109 (fun v wx => v = .bool false ∧ wr = wx)
                  case first =>
                    by_cases h : x = name
                    · have hbn : (x.toList == name.toList) = true := by rw [h]; simp
                      have hbn2 : x.toList = name.toList := by rw [h]
                      clear hsk h
                      go_wp2_with (at_lookup; go_loud (refine wpList_look_w (by rfl) _ _ 29 false rfl _ x rfl rfl _ HLK.out ?_))
                      go_meet
                      case rel => exact ⟨rfl, rfl⟩
                    · have hbn : (x.toList == name.toList) = false := by simpa using fun e => h (tl_inj e)
                      have hbn2 : ¬ x.toList = name.toList := fun e => h (tl_inj e)
                      cases t
                      · exact absurd ⟨h, rfl⟩ hsk
                      · clear hsk h
                        go_wp2_with (at_lookup; go_loud (refine wpList_look_w (by rfl) _ _ 29 false rfl _ x rfl rfl _ HLK.out ?_))
                        go_meet
                        case rel => exact ⟨rfl, rfl⟩
                  case rest =>
                    obtain ⟨rfl, rfl⟩ := hcut
                    clear hsk HLK
                    go_wp2
                    go_loopw [13, 14, 17] (fun vn vc vj wx => ∃ (H : List St) (c : Bool) (j : Nat), vn = .int .i64 H.length ∧ vc = .bool c ∧ vj = .int .i64 j ∧ j ≤ l ∧ Hid (RndIn N Ms name H c r i j) ∧ Hid (atM wx wM.heap.size (bools H)) ∧ Hid (Below wM.heap.size wM wx))
                      (fun _ _ vj _ => l - (intOf vj).toNat)
                    case atStart => exact ⟨H, c, 0, rfl, rfl, rfl, by omega, hin0, hmp, hbel⟩
                    case round =>
                      clear hin0 hmp hbel hH4 k1 k2 k3 HTI
                      obtain ⟨H, c, j, rfl, rfl, rfl, hj, hin, hmp, hbel⟩ := hrel
                      have hH4 : H.length ≤ 4096 := by have := found_le hin.out.r.nodup hin.out.r.sub; have := HTOT.out; omega
                      have k2 := (hbel.out.cell (p := ⟨bm, om + i, none⟩) hbm).trans HCM.out
                      by_cases hjl : j < l
                      · have hjl' : (j : Int) < (l : Int) := by omega
                        have hjm : j < (mm Ms i).length := by rw [HL.out]; exact hjl
                        obtain ⟨bs, os, hai, hbs, hcs⟩ := HSI.out.at_ (i := j) hjm
                        subst hai
                        have k4 := (hbel.out.cell (p := ⟨bs, os + j, none⟩) hbs).trans hcs
                        obtain ⟨m, hm⟩ : ∃ m, (mm Ms i).getD j ByteArray.empty = m := ⟨_, rfl⟩
                        rw [hm] at k4
                        obtain ⟨t, ht⟩ : ∃ t, t = decide (m ∈ H) := ⟨_, rfl⟩
                        have lk := look29 hmp.out m t ht
                        have HLK : Hid _ := lk
                        have HJM : Hid _ := hjm
                        have HMM : Hid _ := hm
                        have HTI : Hid _ := ht
                        clear lk hjm hm ht hcs
                        cases t
                        · have hnot : m ∉ H := by have := HTI.out; simpa using this.symm
                          have up := upd_none 29 4 Try.underlying29 hmp.out m (.bool true) (get_out hnot)
                          rw [bools_snoc] at up
                          have HIN : Hid (RndIn N Ms name (H ++ [m]) true r i (j + 1)) := hin.out.new HJM.out HMM.out hnot
                          have HMP : Hid (atM (putM wr wM.heap.size (bools (H ++ [m]))) wM.heap.size (bools (H ++ [m]))) := putM_same (atM_lt hmp.out) _
                          have HBL : Hid (Below wM.heap.size wM (putM wr wM.heap.size (bools (H ++ [m])))) := hbel.out.trans (putM_below _ _ _ _ (Nat.le_refl _))
                          obtain ⟨w2, hw2⟩ : ∃ w2, w2 = putM wr wM.heap.size (bools (H ++ [m])) := ⟨_, rfl⟩
                          rw [← hw2] at up HMP HBL
                          have HUP : Hid _ := up
                          clear up hw2 hnot hin hmp hbel
                          go_wp2_with (first | (at_lookup; refine wpList_look rfl _ _ 29 false rfl _ m rfl rfl _ HLK.out ?_) | (at_mapUpdate; refine wpList_upd rfl _ _ _ 29 rfl _ m (.bool true) w2 rfl rfl rfl HUP.out ?_))
                          go_roundw
                          case rel => exact ⟨H ++ [m], true, j + 1, by simp, rfl, by go_num, by omega, HIN, HMP, HBL⟩
                          case measure => simp [intOf]; omega
                        · have HIN : Hid (RndIn N Ms name H c r i (j + 1)) := hin.out.old HMM.out (by have := HTI.out; simpa using this.symm)
                          clear hin
                          go_wp2_with (at_lookup; refine wpList_look rfl _ _ 29 false rfl _ m rfl rfl _ HLK.out ?_)
                          go_roundw
                          case rel => exact ⟨H, c, j + 1, rfl, rfl, by go_num, by omega, HIN, hmp, hbel⟩
                          case measure => simp [intOf]; omega
                      · have hjl' : ¬ (j : Int) < (l : Int) := by omega
                        have HR2 : Hid (Rnd N Ms name H c r (i + 1)) := hin.out.out (by rw [HL.out]; omega)
                        clear hin
                        go_wp2
                        go_roundw
                        case rel => first | exact ⟨H, c, i + 1, rfl, rfl, by go_num, by omega, HR2, hmp, hbel⟩ | ((repeat apply Exists.intro); exact ⟨⟨H, c, i + 1, rfl, rfl, by go_num, by omega, HR2, hmp, hbel⟩, rfl⟩)
                        case measure => simp [intOf]; omega
            · have hil' : ¬ (i : Int) < (n : Int) := by omega
              have hnx : Hid (Ahead N Ms name H c (r + 1)) := by
                have e : i = N.length := by have := HN.out; omega
                have := hrnd.out; rw [e] at this; exact this.next
              clear hrnd
              go_wp2
              go_roundw
              case rel => exact ⟨H, c, r + 1, rfl, rfl, by go_num, by omega, hnx, hmp, hbel⟩
              case measure => simp [intOf]; omega
end Go.Proofs.Qxb6603449a.BL
