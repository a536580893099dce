import Derived.Test.Qxb6603449aRv
namespace Go.Proofs.Qxb6603449a.BL
open Go.RowKit Go.ChangeMaps Go.MapKept
set_option linter.unusedVariables false
set_option linter.unusedSimpArgs false

/-! ### The law -/
def Lw2 (w : World) (e : Ending) (w' : World) : Prop := e = .returned (.bool true) ∧ Below w.heap.size w w'
set_option maxRecDepth 100000 in
set_option maxHeartbeats 16000000 in
theorem law2_any (E : Ed) (KN : List St) (KV : List Int) (name : St) (ae ak av : Option Addr) (n m k c0 c1 c2 : Nat) (w : World) (hE : E.length = n) (hK : KN.length = m) (hV : KV.length = k) (hnm : n ≤ maxLen) (hmm : m ≤ maxLen) (hkm : k ≤ maxLen) (hre : EdRd w ae E) (hrk : StrRd w ak KN) (hrv : IntRd w av KV)
    (h0 : ae = none → n = 0 ∧ c0 = 0) (h1 : ak = none → m = 0 ∧ c1 = 0) (h2 : av = none → k = 0 ∧ c2 = 0) :
    Calls Try.prog 7 #[.slice ae n c0, .slice ak m c1, .slice av k c2, .string name] w fun e w' => Lw2 w e w' := by
  have hmk := @run_makeMap Try.prog
  have HRE : Hid (EdRd w ae E) := hre
  have HRK : Hid (StrRd w ak KN) := hrk
  have HRV : Hid (IntRd w av KV) := hrv
  have HE : Hid _ := hE
  have HK : Hid _ := hK
  have HV : Hid _ := hV
  have H0 : Hid _ := h0
  have H1 : Hid _ := h1
  have H2 : Hid _ := h2
  clear hre hrk hrv hE hK hV h0 h1 h2
  go_enter Try.func7, Try.ntmps7
  go_wp2_with fail
  refine (zb2_any E KN name ae ak av n m k c0 c1 c2 w HE.out HK.out hnm hmm hkm HRE.out HRK.out).mono ?_
  rintro e w' ⟨b, rfl, rfl⟩
  cases b
  · go_wp2
    go_ret
    exact ⟨rfl, Below.refl _ _⟩
  · go_wp2_with fail
    refine (tb2_any E KN name ae ak av n m k c0 c1 c2 w HE.out HK.out HRE.out HRK.out).mono ?_
    rintro e w' ⟨b, rfl, hb, rfl⟩
    cases b
    · have hsum := hb rfl
      clear hb
      by_cases hmk2 : m = k
      · subst hmk2
        have hne : ((m : Int) != (m : Int)) = false := by simp
        go_wp2_with fail
        refine (cloneE_any ae n c0 E w HE.out (by omega) H0.out HRE.out).mono ?_
        rintro e w1 ⟨ae1, d0, rfl, hr1, _, hb1⟩
        have HE1 : Hid (EdRd w1 ae1 E) := hr1
        have HB1 : Hid (Below w.heap.size w w1) := hb1
        clear hr1 hb1
        go_wp2_with fail
        refine (clone_any ak m c1 KN w1 HK.out (by omega) H1.out (HRK.out.on HB1.out)).mono ?_
        rintro e w2 ⟨ak1, d1, rfl, hr2, _, hb2⟩
        have HK2 : Hid (StrRd w2 ak1 KN) := hr2.rd
        have HE2 : Hid (EdRd w2 ae1 E) := HE1.out.on hb2
        have HB2 : Hid (Below w.heap.size w w2) := below_up HB1.out hb2
        clear hr2 hb2
        go_wp2_with fail
        refine (cloneI_any av m c2 KV w2 HV.out (by omega) H2.out (HRV.out.on HB2.out)).mono ?_
        rintro e w3 ⟨av1, d2, rfl, hr3, _, hb3⟩
        have HV3 : Hid (IntRd w3 av1 KV) := hr3
        have HK3 : Hid (StrRd w3 ak1 KN) := HK2.out.on hb3
        have HE3 : Hid (EdRd w3 ae1 E) := HE2.out.on hb3
        have HB3 : Hid (Below w.heap.size w w3) := below_up HB2.out hb3
        clear hr3 hb3
        go_wp2_with fail
        refine (parents_any ae1 n d0 E w3 HE.out (by omega) HE3.out).mono ?_
        rintro e w4 ⟨pb, rfl, hp4, hb4⟩
        have HP4 : Hid (PRd w4 pb (par E)) := hp4
        have HV4 : Hid (IntRd w4 av1 KV) := HV3.out.on hb4
        have HK4 : Hid (StrRd w4 ak1 KN) := HK3.out.on hb4
        have HE4 : Hid (EdRd w4 ae1 E) := HE3.out.on hb4
        have HB4 : Hid (Below w.heap.size w w4) := below_up HB3.out hb4
        have hpl : ∀ x, (par E x).length ≤ 1048576 := fun x => by have := par_len E x; have := HE.out; omega
        have HPL : Hid _ := hpl
        clear hp4 hb4 hpl
        go_wp2_with fail
        refine (up_any (par E) name pb (n + 1) w4 HPL.out (fun F hF hs => by have := up_len hF hs; rw [HE.out] at this; exact this) (by omega) HP4.out).mono ?_
        rintro e w5 ⟨an, d3, Nd, rfl, hnd, hall, hst, _, hb5⟩
        obtain ⟨q, hq⟩ : ∃ q, Nd.length = q := ⟨_, rfl⟩
        have hqb : q ≤ n + 1 := by have := up_len hnd (fun y hy => (hall y).1 hy); rw [HE.out] at this; omega
        rw [hq]
        have HQ : Hid _ := hq
        have HND : Hid Nd.Nodup := hnd
        have HALL : Hid (∀ y, y ∈ Nd ↔ Up (par E) name y) := hall
        have HST : Hid (StrRd w5 an Nd) := hst
        have HP5 : Hid (PRd w5 pb (par E)) := HP4.out.on hb5
        have HV5 : Hid (IntRd w5 av1 KV) := HV4.out.on hb5
        have HK5 : Hid (StrRd w5 ak1 KN) := HK4.out.on hb5
        have HE5 : Hid (EdRd w5 ae1 E) := HE4.out.on hb5
        have HB5 : Hid (Below w.heap.size w w5) := below_up HB4.out hb5
        clear hq hnd hall hst hb5
        go_wp2_with fail
        refine (acyclic_any (par E) Nd pb q d3 an w5 HQ.out (by omega) HPL.out (fun x hx p hp => (HALL.out p).2 (((HALL.out x).1 hx).snoc hp)) HND.out HP5.out HST.out).mono ?_
        rintro e w6 ⟨t, rfl, hac, hb6⟩
        have HST6 : Hid (StrRd w6 an Nd) := HST.out.on hb6
        have HV6 : Hid (IntRd w6 av1 KV) := HV5.out.on hb6
        have HK6 : Hid (StrRd w6 ak1 KN) := HK5.out.on hb6
        have HE6 : Hid (EdRd w6 ae1 E) := HE5.out.on hb6
        have HB6 : Hid (Below w.heap.size w w6) := below_up HB5.out hb6
        clear hb6
        cases t
        · clear hac
          go_wp2
          go_ret
          exact ⟨rfl, HB6.out⟩
        · have HAC : Hid (Acy (par E) Nd) := hac rfl
          clear hac HRE HRK HRV HE1 HE2 HE3 HE4 HE5 HK2 HK3 HK4 HK5 HV3 HV4 HV5 HP4 HP5 HST HB1 HB2 HB3 HB4 HB5
          have H6 : Hid _ := kh_start w6 KN KV
          go_wp2
          go_loopw [13] (fun v13 wx => ∃ (i : Nat) (Lk Lh : List (St × Value)), v13 = .int .i64 i ∧ i ≤ m ∧ Hid (Kh w6 wx KN KV Lk Lh i)) (fun v13 _ => m - (intOf v13).toNat)
          case atStart => exact ⟨0, [], [], rfl, by omega, H6⟩
          case round =>
            clear H6
            obtain ⟨i, Lk, Lh, rfl, hi, hkh⟩ := hrel
            by_cases hil : i < m
            · have hil' : (i : Int) < (m : Int) := by omega
              obtain ⟨b1, o1, hao, hbl1, hc1⟩ := HK6.out.at_ (i := i) (by rw [HK.out]; exact hil)
              subst hao
              obtain ⟨b2, o2, hao, hbl2, hc2⟩ := HV6.out.at_ (i := i) (by rw [HV.out]; exact hil)
              subst hao
              obtain ⟨x, hx⟩ : ∃ x, KN.getD i ByteArray.empty = x := ⟨_, rfl⟩
              obtain ⟨z, hz⟩ : ∃ z, KV.getD i 0 = z := ⟨_, rfl⟩
              rw [hx] at hc1
              rw [hz] at hc2
              obtain ⟨wa, wb, Lk', Lh', up1, up2, hba, hkh2⟩ := hkh.out.step x z hx hz
              have f1 := (hkh.out.below.cell (p := ⟨b1, o1 + i, none⟩) hbl1).trans hc1
              have f2 := (hkh.out.below.cell (p := ⟨b2, o2 + i, none⟩) hbl2).trans hc2
              have f3 := (hba.cell (p := ⟨b1, o1 + i, none⟩) hbl1).trans hc1
              have HKH : Hid _ := hkh2
              have HUP2 : Hid _ := up2
              clear hkh hkh2 hx hz hc1 hc2 hba up2
              go_wp2
              go_region
              all_goals
                go_wp2_with (first | (at_mapUpdate; refine wpList_upd rfl _ _ _ 29 rfl (w6.heap.size + 1) x (.bool true) wb rfl rfl rfl HUP2.out ?_))
                go_roundw
                case rel => exact ⟨i + 1, Lk', Lh', by go_num, by omega, HKH⟩
                case measure => simp [intOf]; omega
            · have hil' : ¬ (i : Int) < (m : Int) := by omega
              have him : i = KN.length := by rw [HK.out]; omega
              obtain ⟨w7, rfl⟩ : ∃ w7, w7 = wr := ⟨_, rfl⟩
              have HKH : Hid (Kh w6 w7 KN KV Lk Lh KN.length) := by have := hkh.out; rw [him] at this; exact this
              clear hkh him
              have HI0 : Hid (atI (w7.alloc (.map #[] 0)) w7.heap.size []) := atI_made w7
              go_wp2
              go_loopw [15, 16] (fun v15 v16 wx => ∃ (W : List Int) (cn k : Nat), v15 = .int .i64 cn ∧ v16 = .int .i64 k ∧ k ≤ q ∧ cn ≤ k ∧ Hid (W.length = cn) ∧ Hid (Wk (ky KN KV KN.length) Nd k W) ∧ Hid (atI wx w7.heap.size W) ∧ Hid (Below w7.heap.size w7 wx)) (fun _ v16 _ => q - (intOf v16).toNat)
              case atStart => exact ⟨[], 0, 0, rfl, rfl, by omega, by omega, rfl, wk_zero _ _, HI0, (Below.refl _ _).alloc (Nat.le_refl _) _⟩
              case round =>
                clear HI0
                obtain ⟨W, cn, j, rfl, rfl, hj, hcj, hcw, hwk, hat, hbw⟩ := hrel
                by_cases hjq : j < q
                · have hjq' : (j : Int) < (q : Int) := by omega
                  have HJ : Hid (j < Nd.length) := by unfold Hid; rw [HQ.out]; exact hjq
                  obtain ⟨b1, o1, hao, hbl1, hc1⟩ := HST6.out.at_ (i := j) HJ.out
                  subst hao
                  obtain ⟨x, hx⟩ : ∃ x, Nd.getD j ByteArray.empty = x := ⟨_, rfl⟩
                  rw [hx] at hc1
                  have f1 := ((below_up HKH.out.below hbw.out).cell (p := ⟨b1, o1 + j, none⟩) hbl1).trans hc1
                  have lkh := HKH.out.has hbw.out x
                  have lkk := HKH.out.key hbw.out x
                  have HX : Hid _ := hx
                  cases hκ : ky KN KV KN.length x with
                  | none =>
                    rw [hκ] at lkh
                    have HLH : Hid ((Instr.lookup 29 (.map (some (w6.heap.size + 1))) (.string x) false).run Try.prog wr = .ok (.bool false) wr) := lkh
                    have HN : Hid (Wk (ky KN KV KN.length) Nd (j + 1) W) := hwk.out.skip HJ.out HX.out hκ
                    clear lkh lkk hκ hc1 hx
                    go_wp2_with (first | (at_lookup; refine wpList_look rfl _ _ 29 false rfl (w6.heap.size + 1) x rfl rfl _ HLH.out ?_))
                    go_roundw
                    case rel => exact ⟨W, cn, j + 1, rfl, by go_num, by omega, by omega, hcw, HN, hat, hbw⟩
                    case measure => simp [intOf]; omega
                  | some z =>
                    rw [hκ] at lkh lkk
                    have HLH : Hid ((Instr.lookup 29 (.map (some (w6.heap.size + 1))) (.string x) false).run Try.prog wr = .ok (.bool true) wr) := lkh
                    have HLK : Hid ((Instr.lookup 43 (.map (some w6.heap.size)) (.string x) false).run Try.prog wr = .ok (.int .i32 z) wr) := lkk
                    have HKZ : Hid _ := hκ
                    by_cases hzw : z ∈ W
                    · have HLW : Hid _ := lookI hat.out z true (by simp [hzw])
                      have HBX : Hid (Below w.heap.size w wr) := below_up (below_up HB6.out HKH.out.below) hbw.out
                      clear lkh lkk hκ hc1 hx hzw
                      go_wp2_with (first | (at_lookup; refine wpList_look rfl _ _ 29 false rfl (w6.heap.size + 1) x rfl rfl _ HLH.out ?_) | (at_lookup; refine wpList_look rfl _ _ 43 false rfl w6.heap.size x rfl rfl _ HLK.out ?_) | (at_lookup; refine wpList_lookI rfl _ _ rfl w7.heap.size z rfl rfl _ HLW.out ?_))
                      go_ret
                      exact ⟨rfl, HBX.out⟩
                    · have HLW : Hid _ := lookI hat.out z false (by simp [hzw])
                      have HUW : Hid _ := updI hat.out z hzw
                      have HN : Hid (Wk (ky KN KV KN.length) Nd (j + 1) (W ++ [z])) := hwk.out.add HJ.out HX.out HKZ.out hzw
                      have HN2 : Hid (atI (putI wr w7.heap.size (W ++ [z])) w7.heap.size (W ++ [z])) := putI_same (atI_lt hat.out) _
                      have HN3 : Hid (Below w7.heap.size w7 (putI wr w7.heap.size (W ++ [z]))) := hbw.out.trans (putI_below wr w7.heap.size w7.heap.size _ (Nat.le_refl _) hbw.out.size)
                      have HN4 : Hid ((W ++ [z]).length = cn + 1) := by unfold Hid; rw [List.length_append, hcw.out]; rfl
                      clear lkh lkk hκ hc1 hx hzw hwk hat hbw hcw
                      generalize putI wr w7.heap.size (W ++ [z]) = wp at *
                      go_wp2_with (first | (at_lookup; refine wpList_look rfl _ _ 29 false rfl (w6.heap.size + 1) x rfl rfl _ HLH.out ?_) | (at_lookup; refine wpList_look rfl _ _ 43 false rfl w6.heap.size x rfl rfl _ HLK.out ?_) | (at_lookup; refine wpList_lookI rfl _ _ rfl w7.heap.size z rfl rfl _ HLW.out ?_) | (at_mapUpdate; refine wpList_updI rfl _ _ _ rfl w7.heap.size z wp rfl rfl rfl HUW.out ?_))
                      go_roundw
                      case rel => exact ⟨W ++ [z], cn + 1, j + 1, by go_num, by go_num, by omega, by omega, HN4, HN, HN2, HN3⟩
                      case measure => simp [intOf]; omega
                · have hjq' : ¬ (j : Int) < (q : Int) := by omega
                  obtain ⟨w8, rfl⟩ : ∃ w8, w8 = wr := ⟨_, rfl⟩
                  have HWK : Hid (Wk (ky KN KV KN.length) Nd Nd.length W) := by
                    have e : j = Nd.length := by rw [HQ.out]; omega
                    have := hwk.out; rw [e] at this; exact this
                  have HB78 : Hid (Below w6.heap.size w6 w8) := below_up HKH.out.below hbw.out
                  have HB8 : Hid (Below w.heap.size w w8) := below_up HB6.out HB78.out
                  clear hwk
                  go_wp2_with fail
                  refine (zr_any ae1 ak1 av1 n m d0 d1 d2 E KN KV name Nd w8 HE.out HK.out HV.out (by omega) (by omega) (HE6.out.on HB78.out) (HK6.out.on HB78.out) (HV6.out.on HB78.out) HND.out HALL.out HAC.out (fun c d z hc hd k1 k2 => HWK.out.inj c d z (by rw [List.take_length]; exact (HALL.out c).2 hc) (by rw [List.take_length]; exact (HALL.out d).2 hd) k1 k2)).mono ?_
                  rintro e w9 ⟨ao, Z, rfl, hf, hz0, hI, hb9⟩
                  obtain ⟨hsame, hlen⟩ := want_same HWK.out HALL.out hf
                  obtain ⟨nz, hnz⟩ : ∃ nz, Z.length = nz := ⟨_, rfl⟩
                  have hcn : cn = nz := by rw [← hcw.out, ← hlen]; exact hnz
                  subst hcn
                  rw [hnz]
                  have HZL : Hid (Z.length = cn) := hnz
                  have HSM : Hid (∀ z, z ∈ Z ↔ z ∈ W) := hsame
                  have HZN : Hid Z.Nodup := hf.1
                  have HZI : Hid (I21 w9 ao Z) := hI
                  have HWA : Hid (atI w9 w7.heap.size W) := atI_on hat.out hb9
                  have HB9 : Hid (Below w.heap.size w w9) := below_up HB8.out hb9
                  have hne2 : ((cn : Int) != (cn : Int)) = false := by simp
                  have HS0 : Hid (atI (w9.alloc (.map #[] 0)) w9.heap.size []) := atI_made w9
                  have hw79 : w7.heap.size < w9.heap.size := atI_lt HWA.out
                  clear hsame hlen hnz hf hz0 hI hb9 hat hbw hcw HB78 HKH
                  go_wp2
                  go_loopw [20] (fun v20 wx => ∃ i : Nat, v20 = .int .i64 i ∧ i ≤ cn ∧ Hid (atI wx w9.heap.size (Z.take i)) ∧ Hid (Below w9.heap.size w9 wx)) (fun v20 _ => cn - (intOf v20).toNat)
                  case atStart => exact ⟨0, rfl, by omega, by rw [List.take_zero]; exact HS0, (Below.refl _ _).alloc (Nat.le_refl _) _⟩
                  case round =>
                    clear HS0
                    obtain ⟨i, rfl, hi, hat, hbw⟩ := hrel
                    by_cases hic : i < cn
                    · have hic' : (i : Int) < (cn : Int) := by omega
                      have HI : Hid (i < Z.length) := by unfold Hid; rw [HZL.out]; exact hic
                      obtain ⟨b, hao, hbl, hcz⟩ := HZI.out.at_ HI.out
                      subst hao
                      have hnew := fresh_at HZN.out HI.out
                      have htk := takeI HI.out
                      obtain ⟨z, hz⟩ : ∃ z, Z.getD i 0 = z := ⟨_, rfl⟩
                      have hzm : z ∈ W := (HSM.out z).1 (by rw [← hz, List.getD_eq_getElem?_getD, List.getElem?_eq_getElem HI.out]; simp)
                      rw [hz] at hnew htk hcz
                      have f1 := (hbw.out.cell (p := ⟨b, i, none⟩) hbl).trans hcz
                      have HL1 : Hid _ := lookI (atI_on HWA.out hbw.out) z true (by simp [hzm])
                      have HL2 : Hid _ := lookI hat.out z false (by simp [hnew])
                      have HUS : Hid _ := updI hat.out z hnew
                      have HN2 : Hid (atI (putI wr w9.heap.size (Z.take i ++ [z])) w9.heap.size (Z.take (i + 1))) := by unfold Hid; rw [htk]; exact putI_same (atI_lt hat.out) _
                      have HN3 : Hid (Below w9.heap.size w9 (putI wr w9.heap.size (Z.take i ++ [z]))) := hbw.out.trans (putI_below wr w9.heap.size w9.heap.size _ (Nat.le_refl _) hbw.out.size)
                      clear hnew htk hz hzm hcz hat hbw
                      generalize putI wr w9.heap.size (Z.take i ++ [z]) = wp at *
                      go_wp2_with (first | (at_lookup; refine wpList_lookI rfl _ _ rfl w7.heap.size z rfl rfl _ HL1.out ?_) | (at_lookup; refine wpList_lookI rfl _ _ rfl w9.heap.size z rfl rfl _ HL2.out ?_) | (at_mapUpdate; refine wpList_updI rfl _ _ _ rfl w9.heap.size z wp rfl rfl rfl HUS.out ?_))
                      go_roundw
                      case rel => exact ⟨i + 1, by go_num, by omega, HN2, HN3⟩
                      case measure => simp [intOf]; omega
                    · have hic' : ¬ (i : Int) < (cn : Int) := by omega
                      go_wp2
                      go_ret
                      exact ⟨rfl, below_up HB9.out hbw.out⟩
      · have hne : ((m : Int) != (k : Int)) = true := by simp only [bne_iff_ne]; omega
        have HNE : Hid _ := hmk2
        clear hmk2
        go_wp2
        go_ret
        exact ⟨rfl, Below.refl _ _⟩
    · clear hb
      go_wp2
      go_ret
      exact ⟨rfl, Below.refl _ _⟩
end Go.Proofs.Qxb6603449a.BL
