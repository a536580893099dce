import Derived.Test.Qxb6603449aBl5
namespace Go.Proofs.Qxb6603449a.BL
open Go.RowKit Go.ChangeMaps
set_option linter.unusedVariables false
set_option linter.unusedSimpArgs false

def msz (w : World) (b : Nat) : Nat := match w.heap[b]? with | some (.map es _) => es.size | _ => 0
theorem msz_at {w : World} {b : Nat} {L : List (St × Value)} (h : atM w b L) : msz w b = L.length := by unfold msz; rw [h]; simp [ents_len]
def lenOfV : Value → Nat
  | .slice _ n _ => n
  | _ => 0
def BePost (N : List St) (Ms : List (List St)) (name : St) (w : World) (e : Ending) (w' : World) : Prop := ∃ bf F, e = .returned (.map (some bf)) ∧ atM w' bf (bools F) ∧ F.Nodup ∧ (∀ x, x ∈ F ↔ Rch N Ms name x) ∧ Below w.heap.size w w'
theorem snoc_of {W : List Nat} (h : W ≠ []) : ∃ W' k, W = W' ++ [k] := ⟨W.dropLast, W.getLast h, (List.dropLast_concat_getLast h).symm⟩

theorem blk_new (X : World) (n : Nat) (h : X.heap.size = n) (o : Obj) : (X.alloc o).heap[n]? = some o := by rw [← h]; exact heap_alloc_new X o
theorem look49 {N : List St} {γ : Nat → Nat} {NM : List (St × Value)} {mB : Nat} {w : World} (hN : Nmd N (ptr γ) NM N.length) (h : atM w mB NM) (x : St) :
    ∃ p ok, (Instr.lookup 49 (.map (some mB)) (.string x) true).run Try.prog w = .ok (.tuple #[p, .bool ok]) w ∧ ((ok = true ∧ ∃ k, Fst N k ∧ nm N k = x ∧ p = ptr γ k) ∨ (ok = false ∧ ∀ k, Fst N k → nm N k ≠ x)) := by
  cases hg : get NM x with
  | none => exact ⟨_, false, look_none 49 54 Try.underlying49 _ (zero54 _) h x hg true, Or.inr ⟨rfl, hN.no hg⟩⟩
  | some v => exact ⟨v, true, look_some 49 54 Try.underlying49 h x v hg true, Or.inl ⟨rfl, hN.yes hg⟩⟩
theorem look29 {F : List St} {b : Nat} {w : World} (h : atM w b (bools F)) (x : St) (t : Bool) (ht : t = decide (x ∈ F)) : (Instr.lookup 29 (.map (some b)) (.string x) false).run Try.prog w = .ok (.bool t) w := by
  subst ht
  by_cases hx : x ∈ F
  · have := look_some 29 4 Try.underlying29 h x _ (get_in hx) false
    rw [this]; simp [hx]
  · have := look_none 29 4 Try.underlying29 _ (zero4 _) h x (get_out hx) false
    rw [this]; simp [hx]

set_option maxRecDepth 100000 in
set_option maxHeartbeats 4000000 in
theorem below_any (N : List St) (Ms : List (List St)) (name : St) (γ : Nat → Nat) (mB : Nat) (NM : List (St × Value)) (lv v2 v3 : Value) (w : World) (hlen : Ms.length = N.length) (htot : tot Ms ≤ 4096) (hms : ∀ k, (mm Ms k).length ≤ 4096)
    (hM : atM w mB NM) (hN : Nmd N (ptr γ) NM N.length) (hG : ∀ k, k < N.length → Grp w (γ k) (mm Ms k)) :
    Calls Try.prog 30 #[.agg #[lv, .map (some mB), v2, v3], .string name] w fun e w' => BePost N Ms name w e w' := by
  have hmm := @run_makeMap Try.prog
  have HM : Hid (atM w mB NM) := hM
  have HN : Hid (Nmd N (ptr γ) NM N.length) := hN
  have HG : Hid (∀ k, k < N.length → Grp w (γ k) (mm Ms k)) := hG
  have HMS : Hid (∀ k, (mm Ms k).length ≤ 4096) := hms
  have HLEN : Hid _ := hlen
  have HTOT : Hid _ := htot
  clear hM hN hG hms hlen htot
  obtain ⟨w2, hw2⟩ : ∃ w2, w2 = (w.alloc (.cells #[lv, .map (some mB), v2, v3] 53)).alloc (.map #[] 0) := ⟨_, rfl⟩
  have hst0 : Bst w w2 w.heap.size (w.heap.size + 1) mB lv v2 v3 [] (.slice none 0 0) [] γ := by
    rw [hw2]
    have hs1 : (w.alloc (.cells #[lv, .map (some mB), v2, v3] 53)).heap.size = w.heap.size + 1 := by simp
    refine ⟨?_, ?_, World.ownsRow_nil _ _ _ _, by simp [Value.ownBlock], by simp [Value.ownBlock], by omega, Nat.le_refl _, by omega, ((Below.refl _ _).alloc (Nat.le_refl _) _).alloc (by omega) _⟩
    · have := atM_made (w.alloc (.cells #[lv, .map (some mB), v2, v3] 53)); rw [hs1] at this; exact this
    · unfold atR; rw [Below.heap_alloc _ _ _ (by omega)]; exact heap_alloc_new w _
  have HST0 : Hid _ := hst0
  have hM2 : atM w2 mB NM := by rw [hw2]; exact atM_alloc (atM_alloc HM.out _) _
  have HM2 : Hid _ := hM2
  have HW2 : Hid _ := hw2
  clear hst0 hM2 hw2
  obtain ⟨p, ok, hlk, hok⟩ := look49 HN.out HM2.out name
  rw [HW2.out] at hlk
  have HLK : Hid _ := hlk
  have HOK : Hid _ := hok
  clear hlk hok
  go_enter Try.func30, Try.ntmps30
  go_upto_if 22 with (at_lookup; refine wpList_look rfl _ _ 49 true rfl mB name rfl rfl _ HLK.out ?_)
  go_cut [6] from 22 to 26 (fun v6 wx => ∃ (ao : Option Addr) (cap : Nat) (W : List Nat), v6 = .slice ao W.length cap ∧ Hid (Dfs N Ms name [] W) ∧ Hid (Bst w wx w.heap.size (w.heap.size + 1) mB lv v2 v3 [] (.slice ao W.length cap) W γ))
  case first =>
    rcases HOK.out with ⟨rfl, k, hk, hkn, rfl⟩ | ⟨rfl, hno⟩
    · have hst1 := HST0.out.alloc (.cells #[ptr γ k] 54)
      rw [HW2.out] at hst1
      have HST1 : Hid _ := hst1
      have HD : Hid (Dfs N Ms name [] [k]) := dfs_start_some hk hkn
      clear hst1
      unfold ptr at HST1 ⊢
      go_wp2_with (at_builtin; go_loud (refine wpList_push rfl _ _ rfl w.heap.size 0 _ (.pointer (some ⟨γ k, 0, none⟩)) [] rfl HST1.out.own _ rfl (blk_new _ _ (by simp) _) rfl (by omega) HST1.out.below.size ?_); intro g cap w' hown hgr hat)
      go_meet
      case rel => exact ⟨_, cap, [k], rfl, HD, HST1.out.push k g cap hown hgr hat⟩
    · have HD : Hid (Dfs N Ms name [] []) := dfs_start_none hno
      rw [HW2.out] at HST0
      go_wp2_with fail
      go_meet
      case rel => exact ⟨none, 0, [], rfl, HD, HST0⟩
  case rest =>
    obtain ⟨ao, cap, W, rfl, hdfs, hst⟩ := hcut
    clear HST0 HLK HOK HW2 HM2
    generalize hbF : w.heap.size + 1 = bF at hst ⊢
    have HBF : Hid _ := hbF
    clear hbF
    go_wp2
    go_loopw [6] (fun v6 wx => ∃ (ao : Option Addr) (cap : Nat) (F : List St) (W : List Nat), v6 = .slice ao W.length cap ∧ Hid (Dfs N Ms name F W) ∧ Hid (Bst w wx w.heap.size bF mB lv v2 v3 F (.slice ao W.length cap) W γ))
      (fun v6 wx => 2 * (tot Ms - msz wx bF) + lenOfV v6)
    case atStart => exact ⟨ao, cap, [], W, rfl, hdfs, hst⟩
    case round =>
      clear hdfs hst
      obtain ⟨ao, cap, F, W, rfl, hdfs, hst⟩ := hrel
      by_cases hW : W = []
      · subst hW
        go_wp2
        go_ret
        exact ⟨bF, F, rfl, hst.out.fm, hdfs.out.nodup, hdfs.out.fin, hst.out.below⟩
      · obtain ⟨W', g, rfl⟩ := snoc_of hW
        obtain ⟨gr, cap', hv, hgr1, hgr2⟩ := hst.out.own.form (by simp)
        simp only [Value.slice.injEq] at hv
        obtain ⟨rfl, _, rfl⟩ := hv
        have hlw : (W' ++ [g]).length = W'.length + 1 := by simp
        have hWF := hdfs.out.len
        have hFT := found_le hdfs.out.nodup hdfs.out.sub
        have hT4 := HTOT.out
        rw [hlw] at hst hWF ⊢
        have ctop := hst.out.top
        have hpop := hst.out.pop
        have hcap : W'.length + 1 ≤ cap := by
          rcases hst.out.own.2 with ⟨c, _⟩ | ⟨g', cap', cur, e, h1, h2, h3, h4, h5, h6⟩
          · cases c
          · simp only [Value.slice.injEq] at e
            rw [e.2.2]; simpa using h3
        have hgok := hdfs.out.wok g (by simp)
        obtain ⟨hgl, ag, cg, cg0, hgm⟩ := HG.out g hgok.1.1
        have cg1 := (hst.out.below.cell (p := ⟨γ g, 1, none⟩) hgl).trans cg0
        clear cg0
        have HGM : Hid _ := hgm
        have hl4 := HMS.out g
        generalize hln : (mm Ms g).length = l at cg1 hl4
        have HLN : Hid _ := hln
        have HIN : Hid (DfsIn N Ms name F W' g 0) := hdfs.out.pop
        have HPOP : Hid _ := hpop
        have HLW : Hid _ := hlw
        have HFM : Hid (msz wr bF = F.length) := by unfold Hid; rw [msz_at hst.out.fm, bools_len]
        unfold ptr at ctop
        clear hgm hln hpop hlw hdfs hst hgok hW
        generalize hnn : W'.length = n at ctop hcap hWF HPOP HLW ⊢
        have HNN : Hid _ := hnn
        clear hnn
        have i1 : (n : Int) < (cap : Int) := by omega
        have i2 : n ≤ cap := by omega
        go_wp2
        go_loopw [6, 46] (fun v6 vj wx => ∃ (ao : Option Addr) (cap j : Nat) (F' : List St) (W1 : List Nat), v6 = .slice ao W1.length cap ∧ vj = .int .i64 j ∧ j ≤ l ∧ Hid (DfsIn N Ms name F' W1 g j) ∧ Hid (Bst w wx w.heap.size bF mB lv v2 v3 F' (.slice ao W1.length cap) W1 γ) ∧ Hid (F.length ≤ F'.length ∧ W1.length + F.length ≤ n + F'.length))
          (fun _ vj _ => l - (intOf vj).toNat)
        case atStart => exact ⟨some ⟨gr, 0, none⟩, cap, 0, F, W', by rw [HNN.out], rfl, by omega, HIN, by rw [HNN.out]; exact HPOP, by have := HNN.out; unfold Hid; omega⟩
        case round =>
          clear HIN HPOP cg1 ctop
          obtain ⟨ao, cap, j, F', W1, rfl, rfl, hj, hin, hst, hcnt⟩ := hrel
          by_cases hjl : j < l
          · have hjl' : (j : Int) < (l : Int) := by omega
            have hjm : j < (mm Ms g).length := by rw [HLN.out]; exact hjl
            rcases HGM.out with hnil | ⟨b, off, hag, hbl, hmem⟩
            · rw [hnil] at hjm; simp at hjm
            · subst hag
              obtain ⟨q, m1, m2⟩ := hmem j hjm
              have c1 := (hst.out.below.cell (p := ⟨b, off + j * 2, none⟩) hbl).trans m1
              have c2 := (hst.out.below.cell (p := ⟨b, off + j * 2 + 1, none⟩) hbl).trans m2
              obtain ⟨m, hm⟩ : ∃ m, (mm Ms g).getD j ByteArray.empty = m := ⟨_, rfl⟩
              rw [hm] at c1
              obtain ⟨t, ht⟩ : ∃ t, t = decide (m ∈ F') := ⟨_, rfl⟩
              have st1 := hst.out.alloc (.cells #[.string m, .int .i64 q] 59)
              have lk := look29 st1.fm m t ht
              have HM' : Hid _ := hm
              have HJM : Hid _ := hjm
              have HTT : Hid _ := ht
              have HLK : Hid _ := lk
              have HS1 : Hid _ := st1
              clear hm ht lk st1 m1 m2 hmem hjm
              cases t
              · have hnot : m ∉ F' := by have := HTT.out; simpa using this.symm
                have st2 := HS1.out.put m
                obtain ⟨w2, hw2⟩ : ∃ w2, w2 = putM (wr.alloc (.cells #[.string m, .int .i64 q] 59)) bF (bools (F' ++ [m])) := ⟨_, rfl⟩
                have up := upd_none 29 4 Try.underlying29 HS1.out.fm m (.bool true) (get_out hnot)
                rw [bools_snoc, ← hw2] at up
                rw [← hw2] at st2
                have hm2 : atM w2 mB NM := (st2.below.block mB (atM_lt HM.out)).trans HM.out
                obtain ⟨p2, ok2, lk2, hok2⟩ := look49 HN.out hm2 m
                have cb : w2.cell? ⟨w.heap.size, 1, none⟩ = some (.map (some mB)) := atR_at st2.bx 1 _ rfl
                have cv : w2.cell? ⟨wr.heap.size, 0, none⟩ = some (.string m) := by
                  rw [hw2, World.cell?_of_block (putM_other _ _ _ _ (by have := atM_lt hst.out.fm; simp only; omega))]
                  simp
                have HUP : Hid _ := up
                have HS2 : Hid _ := st2
                have HL2 : Hid _ := lk2
                have HO2 : Hid _ := hok2
                have HNOT : Hid _ := hnot
                clear up st2 lk2 hok2 hm2 hw2 hnot
                go_upto_if 66 with (first | (at_lookup; refine wpList_look rfl _ _ 29 false rfl bF m rfl rfl _ HLK.out ?_) | (at_mapUpdate; refine wpList_upd rfl _ _ _ 29 rfl bF m (.bool true) w2 rfl rfl rfl HUP.out ?_) | (at_lookup; refine wpList_look rfl _ _ 49 true rfl mB m rfl rfl _ HL2.out ?_))
                have hjm := HJM.out
                rcases HO2.out with ⟨rfl, k, hk, hkn, rfl⟩ | ⟨rfl, hno⟩
                · have HD : Hid (DfsIn N Ms name (F' ++ [m]) (W1 ++ [k]) g (j + 1)) := hin.out.new HJM.out HM'.out HNOT.out [k] (Or.inl ⟨k, rfl, hk, hkn⟩)
                  have hwl := hin.out.len
                  have hfl := found_le hin.out.nodup hin.out.sub
                  have st3 := HS2.out.alloc (.cells #[ptr γ k] 54)
                  unfold ptr at st3 ⊢
                  have HS3 : Hid _ := st3
                  clear st3
                  go_wp2_with (at_builtin; go_loud (refine wpList_push rfl _ _ rfl w.heap.size W1.length _ (.pointer (some ⟨γ k, 0, none⟩)) _ rfl HS3.out.own _ rfl (blk_new _ _ rfl _) rfl (by omega) HS3.out.below.size ?_); intro g4 cap4 w4 hown hgr4 hat)
                  have HS4 : Hid _ := HS3.out.push k g4 cap4 hown hgr4 hat
                  clear hown hgr4 hat
                  go_roundw
                  case rel => exact ⟨some ⟨g4, 0, none⟩, cap4, j + 1, F' ++ [m], W1 ++ [k], by simp, by go_num, by omega, HD, by simpa using HS4, by have := hcnt.out; unfold Hid; simp; omega⟩
                  case measure => simp [intOf]; omega
                · have HD : Hid (DfsIn N Ms name (F' ++ [m]) (W1 ++ []) g (j + 1)) := hin.out.new HJM.out HM'.out HNOT.out [] (Or.inr ⟨rfl, hno⟩)
                  rw [List.append_nil] at HD
                  go_wp2_with fail
                  go_roundw
                  case rel => exact ⟨ao, cap, j + 1, F' ++ [m], W1, rfl, by go_num, by omega, HD, HS2, by have := hcnt.out; unfold Hid; simp; omega⟩
                  case measure => simp [intOf]; omega
              · go_wp2_with (at_lookup; refine wpList_look rfl _ _ 29 false rfl bF m rfl rfl _ HLK.out ?_)
                go_roundw
                case rel => exact ⟨ao, cap, j + 1, F', W1, rfl, by go_num, by omega, hin.out.seen HM'.out (by have := HTT.out; simpa using this.symm), HS1, hcnt⟩
                case measure => simp [intOf]; omega
          · have hjl' : ¬ (j : Int) < (l : Int) := by omega
            have hd : Hid (Dfs N Ms name F' W1) := hin.out.out (by rw [HLN.out]; omega)
            have hF2 := found_le hd.out.nodup hd.out.sub
            have HF2 : Hid (msz wr bF = F'.length) := by unfold Hid; rw [msz_at hst.out.fm, bools_len]
            go_wp2
            go_roundw
            case rel => exact ⟨ao, cap, F', W1, rfl, hd, hst⟩
            case measure =>
              have e1 := HF2.out
              have e2 := HFM.out
              have e3 := hcnt.out
              simp only [lenOfV]
              omega
end Go.Proofs.Qxb6603449a.BL
