import Derived.Test.Qxb6603449aRf
namespace Go.Proofs.Qxb6603449a.BL
open Go.RowKit Go.ChangeMaps Go.MapKept
set_option linter.unusedVariables false
set_option linter.unusedSimpArgs false

/-! ### reachAcyclic -/
theorem filter_take {f : St → Bool} {l : List St} {k : Nat} (hk : k < l.length) : (l.take (k + 1)).filter f = (l.take k).filter f ++ if f (l.getD k ByteArray.empty) then [l.getD k ByteArray.empty] else [] := by
  have e : l.getD k ByteArray.empty = l[k] := by rw [List.getD_eq_getElem?_getD, List.getElem?_eq_getElem hk]; rfl
  rw [List.take_succ_eq_append_getElem hk, List.filter_append, e]
  congr 1
  cases h : f l[k] <;> simp [h]
theorem cnt_take {P : St → List St} {l : List St} {k : Nat} (hk : k < l.length) (y : St) : cnt P (l.take (k + 1)) y = cnt P (l.take k) y + (P (l.getD k ByteArray.empty)).count y := by
  have e : l.getD k ByteArray.empty = l[k] := by rw [List.getD_eq_getElem?_getD, List.getElem?_eq_getElem hk]; rfl
  rw [List.take_succ_eq_append_getElem hk, cnt_snoc, e]
theorem snoc_ofS {W : List St} (h : W ≠ []) : ∃ W' k, W = W' ++ [k] := ⟨W.dropLast, W.getLast h, (List.dropLast_concat_getLast h).symm⟩
def AcPost (P : St → List St) (Nd : List St) (w : World) (e : Ending) (w' : World) : Prop := ∃ t, e = .returned (.bool t) ∧ (t = true → Acy P Nd) ∧ Below w.heap.size w w'
set_option maxRecDepth 100000 in
set_option maxHeartbeats 8000000 in
theorem acyclic_any (P : St → List St) (Nd : List St) (pb n cap : Nat) (an : Option Addr) (w : World) (hn : Nd.length = n) (hn2 : n ≤ 1048576) (hP : ∀ x, (P x).length ≤ 1048576) (hcl : ∀ x ∈ Nd, ∀ p ∈ P x, p ∈ Nd) (hND : Nd.Nodup) (hr : PRd w pb P) (hs : StrRd w an Nd) :
    Calls Try.prog 25 #[.map (some pb), .slice an n cap] w fun e w' => AcPost P Nd w e w' := by
  have hmm := @run_makeMap Try.prog
  have HB : Hid (∀ k y, cnt P (Nd.take k) y ≤ 1099511627776) := fun k y => by
    have h1 := cnt_le P 1048576 hP (Nd.take k) y
    have h2 : (Nd.take k).length ≤ Nd.length := by rw [List.length_take]; omega
    have h3 := Nat.mul_le_mul_right 1048576 (Nat.le_trans h2 (by omega : Nd.length ≤ 1048576))
    exact Nat.le_trans h1 (Nat.le_trans h3 (by decide))
  have H0 : Hid (Kw w (w.alloc (.map #[] 0)) [] (.slice none 0 0) []) := ⟨atM_made w, World.ownsRow_nil _ _ _ _, (Below.refl _ _).alloc (Nat.le_refl _) _⟩
  have HN : Hid _ := hn
  have HP : Hid (∀ x, (P x).length ≤ 1048576) := hP
  have HCL : Hid (∀ x ∈ Nd, ∀ p ∈ P x, p ∈ Nd) := hcl
  have HND : Hid Nd.Nodup := hND
  have HR : Hid (PRd w pb P) := hr
  have HS : Hid (StrRd w an Nd) := hs
  clear hn hP hcl hND hr hs
  go_enter Try.func25, Try.ntmps25
  go_wp2
  go_loopw [6] (fun v6 wx => ∃ (k : Nat) (L : List (St × Value)) (dg : St → Nat), v6 = .int .i64 k ∧ k ≤ n ∧ Hid (DgM L dg) ∧ Hid (∀ y, dg y = cnt P (Nd.take k) y) ∧ Hid (Kw w wx L (.slice none 0 0) [])) (fun v6 _ => n - (intOf v6).toNat)
  case atStart => exact ⟨0, [], _, rfl, by omega, dgm_nil, (fun y => by simp [cnt]), H0⟩
  case round =>
    clear H0
    obtain ⟨k, L, dg, rfl, hk, hdm, hdg, hkw⟩ := hrel
    by_cases hkn : k < n
    · have hkn' : (k : Int) < (n : Int) := by omega
      obtain ⟨b, off, hao, hb1, hc1⟩ := HS.out.at_ (i := k) (by rw [HN.out]; exact hkn)
      subst hao
      have c1 := (hkw.out.below.cell (p := ⟨b, off + k, none⟩) hb1).trans hc1
      obtain ⟨x, hx⟩ : ∃ x, Nd.getD k ByteArray.empty = x := ⟨_, rfl⟩
      rw [hx] at c1
      obtain ⟨ai, ci, lk, hai, hst⟩ := HR.out.look2 hkw.out.below x
      have HST : Hid (StrRd w ai (P x)) := hst
      have hlP := HP.out x
      obtain ⟨l, hl⟩ : ∃ l, (P x).length = l := ⟨_, rfl⟩
      rw [hl] at lk hlP
      have HLK : Hid _ := lk
      have HL : Hid _ := hl
      have HX : Hid _ := hx
      have HDG : Hid (∀ y, dg y = cnt P (Nd.take k) y + ((P x).take 0).count y) := fun y => by rw [hdg.out y]; simp
      clear hx hc1 lk hai hst hl hdg
      go_wp2_with (at_lookup; refine wpList_look rfl _ _ 39 false rfl pb x rfl rfl _ HLK.out ?_)
      go_loopw [8] (fun v8 wx => ∃ (j : Nat) (L : List (St × Value)) (dg : St → Nat), v8 = .int .i64 j ∧ j ≤ l ∧ Hid (DgM L dg) ∧ Hid (∀ y, dg y = cnt P (Nd.take k) y + ((P x).take j).count y) ∧ Hid (Kw w wx L (.slice none 0 0) [])) (fun v8 _ => l - (intOf v8).toNat)
      case atStart => exact ⟨0, L, dg, rfl, by omega, hdm, HDG, hkw⟩
      case round =>
        clear hdm HDG hkw c1 HLK
        obtain ⟨j, L, dg, rfl, hj, hdm, hdg, hkw⟩ := hrel
        by_cases hjl : j < l
        · have hjl' : (j : Int) < (l : Int) := by omega
          obtain ⟨bs, os, hai, hbs, hcs⟩ := HST.out.at_ (i := j) (by rw [HL.out]; exact hjl)
          subst hai
          have c2 := (hkw.out.below.cell (p := ⟨bs, os + j, none⟩) hbs).trans hcs
          obtain ⟨m, hm⟩ : ∃ m, (P x).getD j ByteArray.empty = m := ⟨_, rfl⟩
          rw [hm] at c2
          have lk := hdm.out.look hkw.out.m m
          obtain ⟨d, hd⟩ : ∃ d, dg m = d := ⟨_, rfl⟩
          rw [hd] at lk
          have hd2 : d ≤ 1099511627777000 := by
            have h1 := hdg.out m
            have h2 := HB.out k m
            have h3 : ((P x).take j).count m ≤ j := Nat.le_trans List.count_le_length (by rw [List.length_take]; omega)
            omega
          have up := upd_any 64 3 Try.underlying64 hkw.out.m m (.int .i64 ((d + 1 : Nat) : Int))
          have HKW : Hid _ := hkw.out.put (putL L m (.int .i64 ((d + 1 : Nat) : Int)))
          have HDM : Hid _ := hdm.out.put m (d + 1)
          have HDG2 : Hid (∀ y, (fun y => if y = m then d + 1 else dg y) y = cnt P (Nd.take k) y + ((P x).take (j + 1)).count y) := fun y => by
            rw [count_take (P x) j m y (by rw [HL.out]; exact hjl) hm]
            show (if y = m then d + 1 else dg y) = _
            have h1 := hdg.out y
            by_cases c : y = m
            · rw [if_pos c, if_pos c]
              rw [c] at h1 ⊢
              omega
            · rw [if_neg c, if_neg c]
              omega
          obtain ⟨w2, hw2⟩ : ∃ w2, w2 = putM wr w.heap.size (putL L m (.int .i64 ((d + 1 : Nat) : Int))) := ⟨_, rfl⟩
          rw [← hw2] at up HKW
          have e1 : ((d + 1 : Nat) : Int) = (d : Int) + 1 := by omega
          rw [e1] at up
          have HLK : Hid _ := lk
          have HUP : Hid _ := up
          clear lk up hw2 hd e1 hcs hdm hdg hkw hm
          go_wp2_with (first | (at_lookup; refine wpList_look rfl _ _ 64 false rfl w.heap.size m rfl rfl _ HLK.out ?_) | (at_mapUpdate; refine wpList_upd rfl _ _ _ 64 rfl w.heap.size m (.int .i64 ((d : Int) + 1)) w2 rfl rfl rfl HUP.out ?_))
          go_roundw
          case rel => exact ⟨j + 1, _, _, by go_num, by omega, HDM, HDG2, HKW⟩
          case measure => simp [intOf]; omega
        · have hjl' : ¬ (j : Int) < (l : Int) := by omega
          have HDG2 : Hid (∀ y, dg y = cnt P (Nd.take (k + 1)) y) := fun y => by
            have e0 : (P x).take j = P x := List.take_of_length_le (by rw [HL.out]; omega)
            rw [hdg.out y, cnt_take (by rw [HN.out]; exact hkn), HX.out, e0]
          clear hdg
          go_wp2
          go_roundw
          case rel => exact ⟨k + 1, L, dg, by go_num, by omega, hdm, HDG2, hkw⟩
          case measure => simp [intOf]; omega
    · have hkn' : ¬ (k : Int) < (n : Int) := by omega
      have HDG : Hid (∀ y, dg y = cnt P Nd y) := fun y => by
        have := hdg.out y
        rw [List.take_of_length_le (by rw [HN.out]; omega)] at this; exact this
      have HDB : Hid (∀ Q y, cnt P Q y ≤ cnt P Nd y → cnt P Q y ≤ 1099511627776) := fun Q y h => by
        have := HB.out n y
        rw [List.take_of_length_le (by rw [HN.out]; omega)] at this; omega
      clear hdg HB
      go_wp2
      go_loopw [9, 10] (fun v9 v10 wx => ∃ (ao : Option Addr) (cr k : Nat) (R : List St), v9 = .slice ao R.length cr ∧ v10 = .int .i64 k ∧ k ≤ n ∧ R.length ≤ k ∧ Hid (R = (Nd.take k).filter fun y => dg y == 0) ∧ Hid (Kw w wx L (.slice ao R.length cr) R)) (fun _ v10 _ => n - (intOf v10).toNat)
      case atStart => exact ⟨none, 0, 0, [], rfl, rfl, by omega, by simp, rfl, hkw⟩
      case round =>
        clear hkw
        obtain ⟨ao, cr, i, R, rfl, rfl, hi, hRi, hR, hkw⟩ := hrel
        by_cases hin : i < n
        · have hin' : (i : Int) < (n : Int) := by omega
          obtain ⟨b, off, hao, hb1, hc1⟩ := HS.out.at_ (i := i) (by rw [HN.out]; exact hin)
          subst hao
          have c1 := (hkw.out.below.cell (p := ⟨b, off + i, none⟩) hb1).trans hc1
          obtain ⟨x, hx⟩ : ∃ x, Nd.getD i ByteArray.empty = x := ⟨_, rfl⟩
          rw [hx] at c1
          have lk := hdm.out.look hkw.out.m x
          obtain ⟨d, hd⟩ : ∃ d, dg x = d := ⟨_, rfl⟩
          rw [hd] at lk
          have HLK : Hid _ := lk
          have hft := filter_take (f := fun y => dg y == 0) (l := Nd) (k := i) (by rw [HN.out]; exact hin)
          rw [hx] at hft
          clear hc1 lk
          by_cases hz : d = 0
          · subst hz
            have HR2 : Hid (R ++ [x] = (Nd.take (i + 1)).filter fun y => dg y == 0) := by
              unfold Hid; rw [hft, hd, ← hR.out]; rfl
            have HOWN : Hid _ := hkw.out.own.alloc (.cells #[.string x] 9)
            have HPU : Hid (∀ w1 wq g cap2, _ → _ → _ → _) := fun w1 wq g cap2 hw1 => hkw.out.push (w1 := w1) (wq := wq) x hw1 g cap2
            have hz := hkw.out.below.size
            have hlt := atM_lt hkw.out.m
            clear hft hd hx hkw hR
            generalize hN1 : R.length = N1 at *
            go_wp2_with (first | (at_lookup; refine wpList_look rfl _ _ 64 false rfl w.heap.size x rfl rfl _ HLK.out ?_) | (at_builtin; go_loud (refine wpList_push9 rfl _ _ rfl (w.heap.size + 1) N1 _ (.string x) _ rfl HOWN.out _ rfl (blk_new9 rfl rfl) rfl (by omega) (by simp; omega) ?_); intro g2 cap3 w3 hown hgr hat; have HUN : Hid _ := HPU.out _ w3 g2 cap3 rfl hown hgr; clear hown hgr hat))
            go_roundw
            case rel => exact ⟨_, cap3, i + 1, R ++ [x], by simp [hN1], by go_num, by omega, by simp; omega, HR2, HUN⟩
            case measure => simp [intOf]; omega
          · have hz1 : ¬ (d : Int) = 0 := by omega
            have hz2 : ((d : Int) == 0) = false := by simpa using hz
            have HR2 : Hid (R = (Nd.take (i + 1)).filter fun y => dg y == 0) := by
              unfold Hid
              have : (dg x == 0) = false := by rw [hd]; simpa using hz
              rw [hft, this, ← hR.out]; simp
            clear hft hd hx hR
            go_wp2_with (at_lookup; refine wpList_look rfl _ _ 64 false rfl w.heap.size x rfl rfl _ HLK.out ?_)
            go_roundw
            case rel => exact ⟨ao, cr, i + 1, R, rfl, by go_num, by omega, by omega, HR2, hkw⟩
            case measure => simp [intOf]; omega
        · have hin' : ¬ (i : Int) < (n : Int) := by omega
          have HK0 : Hid (Kn P Nd [] Nd R dg) := by
            have := kn_start (P := P) (dg := dg) HND.out HDG.out
            have e := hR.out
            rw [List.take_of_length_le (by rw [HN.out]; omega)] at e
            rw [← e] at this; exact this
          clear hR HDG
          go_wp2
          go_loopw [9, 11] (fun v9 v11 wx => ∃ (ao : Option Addr) (cr dn : Nat) (Pl Rm R : List St) (L : List (St × Value)) (dg : St → Nat), v9 = .slice ao R.length cr ∧ v11 = .int .i64 dn ∧ dn ≤ n ∧ Hid (dn = Pl.length) ∧ Hid (Kn P Nd Pl Rm R dg) ∧ Hid (DgM L dg) ∧ Hid (Kw w wx L (.slice ao R.length cr) R)) (fun _ v11 _ => n + 1 - (intOf v11).toNat)
          case atStart => exact ⟨ao, cr, 0, [], Nd, R, L, dg, rfl, rfl, by omega, rfl, HK0, hdm, hkw⟩
          case round =>
            clear HK0 hdm hkw
            obtain ⟨ao, cr, dn, Pl, Rm, R, L, dg, rfl, rfl, hdn, hdl, hkn, hdm, hkw⟩ := hrel
            by_cases hR0 : R = []
            · subst hR0
              go_wp2
              go_ret
              refine ⟨_, rfl, fun ht => ?_, hkw.out.below⟩
              refine hkn.out.acy ?_ HCL.out
              have := hdl.out
              have := HN.out
              simp at ht
              omega
            · obtain ⟨R1, u, rfl⟩ := snoc_ofS hR0
              have hle := hkn.out.len
              obtain ⟨g, cr2, e1, hg1, hg2, hcr⟩ := own_some hkw.out.own (by simp)
              injection e1 with e1 e2 e3
              subst e1
              have hlw : (R1 ++ [u]).length = R1.length + 1 := by simp
              have c1 := own_str hkw.out.own (k := R1.length) (by simp) rfl
              have e4 : (R1 ++ [u]).getD R1.length ByteArray.empty = u := by simp [List.getD_eq_getElem?_getD]
              rw [e4] at c1
              have HKI : Hid (KnIn P Nd Pl (Rm.erase u) R1 dg u 0) := hkn.out.into HND.out
              have hle2 := HKI.out.len
              rw [hlw] at hkw hcr ⊢
              have HPOP : Hid (Kw w wr L (.slice (some ⟨g, 0, none⟩) R1.length cr) R1) := hkw.out.pop rfl
              have hRl : R1.length ≤ 1048576 := by
                have h1 : R1.length ≤ (Rm.erase u).length := nodup_len HKI.out.rn HKI.out.rs
                have := HN.out
                omega
              obtain ⟨ai, ci, lk, hai, hst⟩ := HR.out.look2 hkw.out.below u
              have HST : Hid (StrRd w ai (P u)) := hst
              have hlP := HP.out u
              obtain ⟨l, hl⟩ : ∃ l, (P u).length = l := ⟨_, rfl⟩
              rw [hl] at lk hlP
              have HLK : Hid _ := lk
              have HL : Hid _ := hl
              have hdn2 : dn < n := by have := HN.out; have := hdl.out; omega
              have HDL : Hid (dn + 1 = (Pl ++ [u]).length) := by unfold Hid; rw [hdl.out]; simp
              clear e2 hlw e4 lk hai hst hl hle hle2 hkw hkn hR0 hdl
              generalize hrr : R1.length = r at c1 HPOP hcr hRl ⊢
              have HRR : Hid _ := hrr
              have i1 : r + 1 ≤ cr := by omega
              have i2 : (r : Int) < (cr : Int) := by omega
              have i3 : r ≤ cr := by omega
              clear hrr e3 hcr
              go_wp2_with (at_lookup; refine wpList_look rfl _ _ 39 false rfl pb u rfl rfl _ HLK.out ?_)
              go_loopw [9, 14] (fun v9 v14 wx => ∃ (ao : Option Addr) (cr j : Nat) (R : List St) (L : List (St × Value)) (dg : St → Nat), v9 = .slice ao R.length cr ∧ v14 = .int .i64 j ∧ j ≤ l ∧ Hid (KnIn P Nd Pl (Rm.erase u) R dg u j) ∧ Hid (DgM L dg) ∧ Hid (Kw w wx L (.slice ao R.length cr) R)) (fun _ v14 _ => l - (intOf v14).toNat)
              case atStart => exact ⟨_, cr, 0, R1, L, dg, by rw [HRR.out], rfl, by omega, HKI, hdm, by rw [HRR.out]; exact HPOP⟩
              case round =>
                clear HKI HPOP hdm c1 HLK hRl
                obtain ⟨ao, cr, j, R, L, dg, rfl, rfl, hj, hki, hdm, hkw⟩ := hrel
                by_cases hjl : j < l
                · have hjl' : (j : Int) < (l : Int) := by omega
                  have hjP : j < (P u).length := by rw [HL.out]; exact hjl
                  obtain ⟨bs, os, hai, hbs, hcs⟩ := HST.out.at_ (i := j) hjP
                  subst hai
                  have c2 := (hkw.out.below.cell (p := ⟨bs, os + j, none⟩) hbs).trans hcs
                  obtain ⟨m, hm⟩ : ∃ m, (P u).getD j ByteArray.empty = m := ⟨_, rfl⟩
                  rw [hm] at c2
                  have lk := hdm.out.look hkw.out.m m
                  have hpos := hki.out.pos hjP hm
                  obtain ⟨_, _, hnx⟩ := hki.out.next hjP hm HCL.out
                  obtain ⟨d, hd⟩ : ∃ d, dg m = d + 1 := ⟨dg m - 1, by omega⟩
                  rw [hd] at lk hnx
                  have hd2 : d ≤ 1099511627777000 := by
                    have h1 := hki.out.deg m
                    have h2 : cnt P (Rm.erase u) m ≤ cnt P Nd m := by
                      rw [cnt_perm P hki.out.perm m]
                      unfold cnt
                      rw [List.flatMap_append, List.count_append]
                      omega
                    have h3 := HDB.out _ _ h2
                    have h4 : ((P u).drop j).count m ≤ l := Nat.le_trans List.count_le_length (by rw [List.length_drop, HL.out]; omega)
                    omega
                  have hRl : R.length ≤ 1048576 := by
                    have h1 : R.length ≤ (Rm.erase u).length := nodup_len hki.out.rn hki.out.rs
                    have := hki.out.len
                    have := HN.out
                    omega
                  have up := upd_any 64 3 Try.underlying64 hkw.out.m m (.int .i64 (d : Nat))
                  have HKW : Hid _ := hkw.out.put (putL L m (.int .i64 (d : Nat)))
                  have HDM : Hid _ := hdm.out.put m d
                  obtain ⟨dg', hdg'⟩ : ∃ dg' : St → Nat, dg' = fun y => if y = m then d else dg y := ⟨_, rfl⟩
                  rw [← hdg'] at HDM
                  have hdm' : dg' m = d := by rw [hdg']; simp
                  obtain ⟨hA, hB⟩ := hnx dg' (fun y => by rw [hdg']; rfl)
                  rw [hdm'] at hA hB
                  have lk2 := DgM.look (dg := dg') HDM.out HKW.out.m m
                  rw [hdm'] at lk2
                  obtain ⟨w2, hw2⟩ : ∃ w2, w2 = putM wr w.heap.size (putL L m (.int .i64 (d : Nat))) := ⟨_, rfl⟩
                  rw [← hw2] at up HKW lk2
                  have c3 : w2.cell? ⟨bs, os + j, none⟩ = some (.string m) := by
                    rw [hw2]; exact (World.cell?_of_block (putM_other wr _ bs _ (by omega))).trans c2
                  have e1 : ((d + 1 : Nat) : Int) = (d : Int) + 1 := by omega
                  rw [e1] at lk
                  have HLK : Hid _ := lk
                  have HLK2 : Hid _ := lk2
                  have HUP : Hid _ := up
                  have HA : Hid (d ≠ 0 → _) := hA
                  have HB : Hid (d = 0 → _) := hB
                  clear lk lk2 up hw2 hd hcs hdm hki hkw hm hnx hA hB hdm' hdg' hpos hjP e1
                  go_upto_region 26 with (first | (at_lookup; refine wpList_look rfl _ _ 64 false rfl w.heap.size m rfl rfl _ HLK.out ?_) | (at_mapUpdate; refine wpList_upd rfl _ _ _ 64 rfl w.heap.size m (.int .i64 (d : Int)) w2 rfl rfl rfl HUP.out ?_))
                  by_cases hz : d = 0
                  · subst hz
                    have HK2 : Hid _ := HB.out rfl
                    have HOWN : Hid _ := HKW.out.own.alloc (.cells #[.string m] 9)
                    have HPU : Hid (∀ w1 wq g cap2, _ → _ → _ → _) := fun w1 wq g cap2 hw1 => HKW.out.push (w1 := w1) (wq := wq) m hw1 g cap2
                    have hz := HKW.out.below.size
                    have hlt := atM_lt HKW.out.m
                    clear HKW HA HB
                    generalize hN1 : R.length = N1 at *
                    go_wp2_with (first | (at_lookup; refine wpList_look rfl _ _ 64 false rfl w.heap.size m rfl rfl _ HLK2.out ?_) | (at_builtin; go_loud (refine wpList_push9 rfl _ _ rfl (w.heap.size + 1) N1 _ (.string m) _ rfl HOWN.out _ rfl (blk_new9 rfl rfl) rfl (by omega) (by simp; omega) ?_); intro g2 cap3 w3 hown hgr hat; have HUN : Hid _ := HPU.out _ w3 g2 cap3 rfl hown hgr; clear hown hgr hat))
                    go_roundw
                    case rel => exact ⟨_, cap3, j + 1, R ++ [m], _, dg', by simp [hN1], by go_num, by omega, HK2, HDM, HUN⟩
                    case measure => simp [intOf]; omega
                  · have hz1 : ¬ (d : Int) = 0 := by omega
                    have hz2 : ((d : Int) == 0) = false := by simpa using hz
                    have HK2 : Hid _ := HA.out hz
                    clear HA HB
                    go_wp2_with (at_lookup; refine wpList_look rfl _ _ 64 false rfl w.heap.size m rfl rfl _ HLK2.out ?_)
                    go_roundw
                    case rel => exact ⟨ao, cr, j + 1, R, _, dg', rfl, by go_num, by omega, HK2, HDM, HKW⟩
                    case measure => simp [intOf]; omega
                · have hjl' : ¬ (j : Int) < (l : Int) := by omega
                  have HK2 : Hid (Kn P Nd (Pl ++ [u]) (Rm.erase u) R dg) := hki.out.done (by rw [HL.out]; omega)
                  clear hki
                  go_wp2
                  go_roundw
                  case rel => exact ⟨ao, cr, dn + 1, Pl ++ [u], Rm.erase u, R, L, dg, rfl, by go_num, by omega, HDL, HK2, hdm, hkw⟩
                  case measure => simp [intOf]; omega
end Go.Proofs.Qxb6603449a.BL
