import Derived.Test.Qxb6603449aRl
namespace Go.Proofs.Qxb6603449a.BL
open Go.RowKit Go.ChangeMaps Go.MapKept
set_option linter.unusedVariables false
set_option linter.unusedSimpArgs false

theorem Mem.key {w : World} {mb ib kb rb : Nat} {P : St → List St} {κ : St → Option Int} {Li Lk Lr : List (St × Value)} (h : Mem w mb ib kb rb P κ Li Lk Lr) (x : St) : (Instr.lookup 43 (.map (some kb)) (.string x) true).run Try.prog w = .ok (.tuple #[.int .i32 ((κ x).getD 0), .bool (κ x).isSome]) w := by
  have := look_ok 43 21 Try.underlying43 _ (SO.zero21 _) h.km x
  rw [this, h.keys x]
  cases κ x <;> rfl
theorem grown_below {w wr w' : World} (h : Below w.heap.size w wr) (hg : wr.grownBy w' none) : Below w.heap.size w w' := below_grown h hg h.size (fun k c => by cases c)
/-- What stands behind the switch. -/
structure Ga (P : St → List St) (F : St → Option (List Int)) (x : St) (w wx : World) (ao : Option Addr) (n cap : Nat) (Z : List Int) : Prop where
  len : n = Z.length
  le : n ≤ cap
  big : cap ≤ 9223372036854775807
  bd : n ≤ 1099511627775
  nil : ao = none → n = 0 ∧ cap = 0
  ints : I21 wx ao Z
  mz : Mz P F x Z
  below : Below w.heap.size w wx
theorem Ga.no {P : St → List St} {κ : St → Option Int} {F : St → Option (List Int)} {x : St} {w wx : World} {ao : Option Addr} {n cap : Nat} {Z : List Int} (h : Ga P F x w wx ao n cap Z) (hk : κ x = none) : GaPost P κ F x w (.returned (.slice ao n n)) wx :=
  ⟨ao, Z, by rw [← h.len], h.mz.no hk, fun c => List.eq_nil_of_length_eq_zero (by rw [← h.len]; exact (h.nil c).1), h.ints, h.below⟩
theorem Ga.yes {P : St → List St} {κ : St → Option Int} {F : St → Option (List Int)} {x : St} {w wx w' : World} {ao : Option Addr} {n cap g cap2 base : Nat} {Z : List Int} {z : Int} {o : Obj} (h : Ga P F x w wx ao n cap Z) (hk : κ x = some z) (hown : w'.ownsRow base 21 1 (.slice (some ⟨g, 0, none⟩) (n + 1) cap2) (n + 1) ((Z ++ [z]).map (Value.int .i32))) (hg : (wx.alloc o).grownBy w' none) :
    n + 1 ≤ cap2 ∧ cap2 ≤ 9223372036854775807 ∧ n + 1 ≤ 1099511627776 ∧ GaPost P κ F x w (.returned (.slice (some ⟨g, 0, none⟩) (n + 1) (n + 1))) w' := by
  obtain ⟨h1, h2, h3, h4⟩ := own_i21 hown
  refine ⟨h2, by unfold maxLen at h3; exact h3, by have := h.bd; omega, some ⟨g, 0, none⟩, Z ++ [z], by rw [← h1], h.mz.yes hk, (fun c => by cases c), h4, grown_below (h.below.alloc h.below.size o) hg⟩
structure Lp (P : St → List St) (F : St → Option (List Int)) (x : St) (w wx : World) (ao : Option Addr) (n cap i : Nat) : Prop where
  own : wx.ownsRow w.heap.size 21 1 (.slice ao n cap) n ((con F ((P x).take i)).map (Value.int .i32))
  below : Below w.heap.size w wx
section
variable {P : St → List St} {F : St → Option (List Int)} {x : St} {w wx w1 w' : World} {ao : Option Addr} {n cap i : Nat}
theorem Lp.len (h : Lp P F x w wx ao n cap i) : n = (con F ((P x).take i)).length := by have := h.own.1; simp at this; omega
theorem Lp.le (h : Lp P F x w wx ao n cap i) : n ≤ cap := by
  rcases h.own.2 with ⟨e, _⟩ | ⟨g, cap', cur, e, _, _, h3, _⟩
  · injection e with _ e1 e2; omega
  · injection e with _ _ e2; omega
theorem lp_start : Lp P F x w w none 0 0 0 := ⟨by rw [List.take_zero]; exact World.ownsRow_nil _ _ _ _, Below.refl _ _⟩
theorem lp_next {v : Value} {g nz cap2 : Nat} {Zp : List Int} (hb : Below w.heap.size w w1) (hc : con F ((P x).take (i + 1)) = con F ((P x).take i) ++ Zp) (h0 : w1.ownsRow w.heap.size 21 1 v n ((con F ((P x).take i)).map (Value.int .i32))) (hown : w'.ownsRow w.heap.size 21 1 (.slice (some ⟨g, 0, none⟩) (n + nz) cap2) (n + nz) ((con F ((P x).take i)).map (Value.int .i32) ++ Zp.map (Value.int .i32))) (hg : w1.grownBy w' v.ownBlock) : Lp P F x w w' (some ⟨g, 0, none⟩) (n + nz) cap2 (i + 1) :=
  ⟨by rw [hc, List.map_append]; exact hown, below_grown hb hg hb.size (own_blk h0)⟩
end
theorem at_new {w : World} {o : Obj} {B : Nat} (h : B = w.heap.size) : (w.alloc o).heap[B]? = some o := by rw [h]; exact heap_alloc_new w o
set_option maxRecDepth 100000 in
set_option maxHeartbeats 8000000 in
theorem gather_any (mb ib kb rb : Nat) (P : St → List St) (κ : St → Option Int) (Li Lk Lr : List (St × Value)) (F : St → Option (List Int)) (x : St) (w : World) (hm : Mem w mb ib kb rb P κ Li Lk Lr) (hr : RdM w Lr F) (hall : ∀ p ∈ P x, F p ≠ none) (hP : (P x).length ≤ 1000000) (hF : ∀ p Z, F p = some Z → Z.length ≤ 1048576) :
    Calls Try.prog 37 #[.pointer (some ⟨mb, 0, none⟩), .string x] w fun e w' => GaPost P κ F x w e w' := by
  have HM : Hid (Mem w mb ib kb rb P κ Li Lk Lr) := hm
  have HR : Hid (RdM w Lr F) := hr
  have HALL : Hid (∀ p ∈ P x, F p ≠ none) := hall
  have HF : Hid (∀ p Z, F p = some Z → Z.length ≤ 1048576) := hF
  have d0 := atR_at hm.bx 0 _ rfl
  have d1 := atR_at hm.bx 1 _ rfl
  have d2 := atR_at hm.bx 2 _ rfl
  obtain ⟨ai, ci, lk, hai, hls⟩ := hm.look x
  have HLK : Hid _ := lk
  have HLS : Hid (LsRd w ai (P x)) := hls.2
  obtain ⟨l, hl⟩ : ∃ l, (P x).length = l := ⟨_, rfl⟩
  rw [hl] at HLK hP hai
  have HL : Hid _ := hl
  clear hm hr hall hF lk hls hl
  go_enter Try.func37, Try.ntmps37
  by_cases l0 : l = 0
  · subst l0
    have HGA : Hid (Ga P F x w w none 0 0 []) := ⟨rfl, by omega, by omega, by omega, (fun _ => ⟨rfl, rfl⟩), Or.inl rfl, mz_zero (List.eq_nil_of_length_eq_zero HL.out), Below.refl _ _⟩
    cases hk : κ x with
    | none =>
      have lkk := (HM.out.on HGA.out.below).key x
      rw [hk] at lkk
      have HLKK : Hid ((Instr.lookup 43 (.map (some kb)) (.string x) true).run Try.prog w = .ok (.tuple #[.int .i32 0, .bool false]) w) := lkk
      have HK : Hid _ := hk
      clear lkk hk
      go_wp2_with (first | (at_lookup; refine wpList_look rfl _ _ 51 false rfl ib x rfl rfl _ HLK.out ?_) | (at_lookup; refine wpList_look rfl _ _ 43 true rfl kb x rfl rfl _ HLKK.out ?_))
      refine (SO.clip_any none 0 0 _ HGA.out.le HGA.out.big (by have := HGA.out.bd; omega) HGA.out.nil).mono ?_
      rintro e w' ⟨rfl, hww⟩
      have hww2 := hww.symm
      clear hww
      subst hww2
      go_wp2
      go_ret
      exact HGA.out.no HK.out
    | some z =>
      have lkk := (HM.out.on HGA.out.below).key x
      rw [hk] at lkk
      have HLKK : Hid ((Instr.lookup 43 (.map (some kb)) (.string x) true).run Try.prog w = .ok (.tuple #[.int .i32 z, .bool true]) w) := lkk
      have HK : Hid _ := hk
      clear lkk hk
      go_wp2_with (first | (at_lookup; refine wpList_look rfl _ _ 51 false rfl ib x rfl rfl _ HLK.out ?_) | (at_lookup; refine wpList_look rfl _ _ 43 true rfl kb x rfl rfl _ HLKK.out ?_))
      refine (SO.clip_any none 0 0 _ HGA.out.le HGA.out.big (by have := HGA.out.bd; omega) HGA.out.nil).mono ?_
      rintro e w' ⟨rfl, hww⟩
      have hww2 := hww.symm
      clear hww
      subst hww2
      have HI2 : Hid (I21 (w.alloc (.cells #[.int .i32 z] 21)) none []) := HGA.out.ints.kp (kp_below ((Below.refl _ _).alloc (Nat.le_refl _) _))
      go_wp2_with (first | (at_builtin; go_loud (refine wpList_key rfl _ _ rfl none 0 w.heap.size [] z rfl rfl HGA.out.len (fun c => (HGA.out.nil c).1) HI2.out (at_new rfl) (by have := HGA.out.bd; omega) ?_); intro g cap2 w3 hown hgr; obtain ⟨q1, q2, q3, hpost⟩ := HGA.out.yes HK.out hown hgr; have HPO : Hid _ := hpost; clear hown hgr hpost))
      refine (SO.clip_any (some ⟨g, 0, none⟩) (0 + 1) cap2 _ q1 q2 q3 (fun c => by cases c)).mono ?_
      rintro e w' ⟨rfl, hww⟩
      have hww2 := hww.symm
      clear hww
      subst hww2
      go_wp2
      go_ret
      exact HPO.out
  · have l0' : ((l : Int) == 0) = false := by simpa using l0
    by_cases l1 : l = 1
    · subst l1
      obtain ⟨p, hp⟩ : ∃ p, P x = [p] := List.length_eq_one_iff.1 HL.out
      obtain ⟨g, off, a, e1, hgl, c1, c2⟩ := HLS.out.at_ (j := 0) (by rw [HL.out]; omega)
      subst e1
      rw [hp] at c1
      simp only [Nat.zero_mul, Nat.add_zero, List.getD_cons_zero] at c1
      have hFp := HALL.out p (by rw [hp]; simp)
      rcases HR.out p with ⟨c, _⟩ | ⟨Z, az, hz, hgz, hz0, hzI⟩
      · exact absurd c hFp
      · have lkp := look_any 74 34 Try.underlying74 _ (zero34 _) HM.out.rm p
        rw [hgz] at lkp
        obtain ⟨nz, hnz⟩ : ∃ nz, nz = Z.length := ⟨_, rfl⟩
        rw [← hnz] at lkp
        have HLKP : Hid ((Instr.lookup 74 (.map (some rb)) (.string p) false).run Try.prog w = .ok (.slice az nz nz) w) := lkp
        have hlp : (Instr.lookup 74 (.map (some rb)) (.string p) false).run Try.prog w.drew = .ok (.slice az nz nz) w.drew := by
          have := look_any (w := w.drew) 74 34 Try.underlying74 _ (zero34 _) HM.out.rm p
          rw [hgz, ← hnz] at this; exact this
        have hFZ := HF.out p Z hz
        have HGA : Hid (Ga P F x w w.drew az nz nz Z) := ⟨hnz, by omega, by omega, by omega, (fun c => by rw [hz0 c] at hnz; exact ⟨hnz, hnz⟩), hzI, mz_one hp hz, ⟨rfl, rfl, rfl, Nat.le_refl _, fun _ _ => rfl⟩⟩
        clear hp hFp hz hgz hz0 hzI lkp hFZ hnz HLKP
        go_wp2_with (first | (at_lookup; refine wpList_look rfl _ _ 51 false rfl ib x rfl rfl _ HLK.out ?_))
        go_region
        all_goals
          cases hk : κ x with
          | none =>
            have lkk := (HM.out.on HGA.out.below).key x
            rw [hk] at lkk
            have HLKK : Hid ((Instr.lookup 43 (.map (some kb)) (.string x) true).run Try.prog w.drew = .ok (.tuple #[.int .i32 0, .bool false]) w.drew) := lkk
            have HK : Hid _ := hk
            clear lkk hk
            go_wp2_with (first | (at_lookup; refine wpList_look rfl _ _ 43 true rfl kb x rfl rfl _ HLKK.out ?_))
            refine (SO.clip_any az nz nz _ HGA.out.le HGA.out.big (by have := HGA.out.bd; omega) HGA.out.nil).mono ?_
            rintro e w' ⟨rfl, hww⟩
            have hww2 := hww.symm
            clear hww
            subst hww2
            go_wp2
            go_ret
            exact HGA.out.no HK.out
          | some z =>
            have lkk := (HM.out.on HGA.out.below).key x
            rw [hk] at lkk
            have HLKK : Hid ((Instr.lookup 43 (.map (some kb)) (.string x) true).run Try.prog w.drew = .ok (.tuple #[.int .i32 z, .bool true]) w.drew) := lkk
            have HK : Hid _ := hk
            clear lkk hk
            go_wp2_with (first | (at_lookup; refine wpList_look rfl _ _ 43 true rfl kb x rfl rfl _ HLKK.out ?_))
            refine (SO.clip_any az nz nz _ HGA.out.le HGA.out.big (by have := HGA.out.bd; omega) HGA.out.nil).mono ?_
            rintro e w' ⟨rfl, hww⟩
            have hww2 := hww.symm
            clear hww
            subst hww2
            have HI2 : Hid (I21 (w.drew.alloc (.cells #[.int .i32 z] 21)) az Z) := HGA.out.ints.kp (kp_below ((Below.refl _ _).alloc (Nat.le_refl _) _))
            go_wp2_with (first | (at_builtin; go_loud (refine wpList_key rfl _ _ rfl az nz w.drew.heap.size Z z rfl rfl HGA.out.len (fun c => (HGA.out.nil c).1) HI2.out (at_new rfl) (by have := HGA.out.bd; omega) ?_); intro g cap2 w3 hown hgr; obtain ⟨q1, q2, q3, hpost⟩ := HGA.out.yes HK.out hown hgr; have HPO : Hid _ := hpost; clear hown hgr hpost))
            refine (SO.clip_any (some ⟨g, 0, none⟩) (nz + 1) cap2 _ q1 q2 q3 (fun c => by cases c)).mono ?_
            rintro e w' ⟨rfl, hww⟩
            have hww2 := hww.symm
            clear hww
            subst hww2
            go_wp2
            go_ret
            exact HPO.out
    · have l1' : ((l : Int) == 1) = false := by simp; omega
      go_wp2_with (first | (at_lookup; refine wpList_look rfl _ _ 51 false rfl ib x rfl rfl _ HLK.out ?_))
      go_loopw [5, 21] (fun v5 v21 wx => ∃ (ao : Option Addr) (n cap i : Nat), v5 = .slice ao n cap ∧ v21 = .int .i64 i ∧ i ≤ l ∧ Hid (Lp P F x w wx ao n cap i)) (fun _ v21 _ => l - (intOf v21).toNat)
      case atStart => exact ⟨none, 0, 0, 0, rfl, rfl, by omega, lp_start⟩
      case round =>
        obtain ⟨ao, n, cap, i, rfl, rfl, hi, hlp⟩ := hrel
        have hn40 : n ≤ i * 1048576 := by
          have := con_len HF.out ((P x).take i)
          rw [List.length_take] at this
          have := hlp.out.len
          have : min i (P x).length * 1048576 ≤ i * 1048576 := Nat.mul_le_mul_right _ (Nat.min_le_left _ _)
          omega
        have hncap := hlp.out.le
        by_cases hil : i < l
        · have hil' : (i : Int) < (l : Int) := by omega
          obtain ⟨g0, off, a, e1, hgl, c1, c2⟩ := HLS.out.at_ (j := i) (by rw [HL.out]; exact hil)
          subst e1
          obtain ⟨p, hp⟩ : ∃ p, (P x).getD i ByteArray.empty = p := ⟨_, rfl⟩
          rw [hp] at c1
          have f1 := (hlp.out.below.cell (p := ⟨g0, off + i * 2, none⟩) hgl).trans c1
          have f2 := (hlp.out.below.cell (p := ⟨g0, off + i * 2 + 1, none⟩) hgl).trans c2
          have hpm : p ∈ P x := by rw [← hp]; exact getD_mem (by rw [HL.out]; exact hil)
          have hFp := HALL.out p hpm
          have hba : Below w.heap.size w (wr.alloc (.cells #[.string p, .int .i64 a] 79)).drew := below_drew (hlp.out.below.alloc hlp.out.below.size _)
          have e2 : (wr.alloc (.cells #[.string p, .int .i64 a] 79)).cell? ⟨mb, 2, none⟩ = some (.map (some rb)) := atR_at (HM.out.on hba).bx 2 _ rfl
          rcases (HR.out.kp (kp_below hba)) p with ⟨c, _⟩ | ⟨Zp, az, hz, hgz, hz0, hzI⟩
          · exact absurd c hFp
          · have lkp := look_any 74 34 Try.underlying74 _ (zero34 _) (HM.out.on hba).rm p
            rw [hgz] at lkp
            obtain ⟨nz, hnz⟩ : ∃ nz, Zp.length = nz := ⟨_, rfl⟩
            rw [hnz] at lkp
            have hlk : (Instr.lookup 74 (.map (some rb)) (.string p) false).run Try.prog (wr.alloc (.cells #[.string p, .int .i64 a] 79)).drew = .ok (.slice az nz nz) (wr.alloc (.cells #[.string p, .int .i64 a] 79)).drew := lkp
            have hFZ := HF.out p Zp hz
            rw [hnz] at hFZ
            have HCT : Hid (con F ((P x).take (i + 1)) = con F ((P x).take i) ++ Zp) := con_take (by rw [HL.out]; exact hil) hp hz
            have HOWN : Hid _ := (hlp.out.own.alloc (.cells #[.string p, .int .i64 a] 79)).drew
            have HI : Hid _ := hzI
            have HBA : Hid _ := hba
            have HNZ : Hid _ := hnz
            have hsz := hlp.out.below.size
            by_cases hz : nz = 0
            · subst hz
              have HNX : Hid (Lp P F x w (wr.alloc (.cells #[.string p, .int .i64 a] 79)).drew ao n cap (i + 1)) := ⟨by rw [HCT.out, List.eq_nil_of_length_eq_zero hnz, List.append_nil]; exact HOWN.out, hba⟩
              clear hgz hz0 hzI lkp hFZ hnz hlp hba hpm hFp hp c1 c2
              go_wp2
              go_region_law (refine step_none21 rfl (.tmp 25) (.tmp 32) rfl ao az n cap 0 (by simp [Act.eval, Act.put]) (by simp [Act.eval, Act.put]) hncap ?_)
              all_goals
                go_wp2
                go_roundw
                case rel => exact ⟨ao, n, cap, i + 1, rfl, by go_num, by omega, HNX⟩
                case measure => simp [intOf]; omega
            · obtain ⟨ad, rfl⟩ : ∃ ad, az = some ad := by
                cases az with
                | none => exact absurd (by rw [← hnz, hz0 rfl]; rfl) hz
                | some ad => exact ⟨ad, rfl⟩
              have HNX : Hid (∀ g cap2 w', _ → _ → Lp P F x w w' (some ⟨g, 0, none⟩) (n + nz) cap2 (i + 1)) := fun g cap2 w' hown hgr => lp_next HBA.out HCT.out HOWN.out hown hgr
              have hz1 : 0 < nz := by omega
              clear hgz hz0 hzI lkp hnz hlp hba hpm hFp hp c1 c2
              go_wp2
              go_region_law (refine step_push21 rfl (.tmp 25) (.tmp 32) rfl w.heap.size n nz (.slice ao n cap) ad ((con F ((P x).take i)).map (Value.int .i32)) Zp (by simp [Act.eval, Act.put]) (by simp [Act.eval, Act.put]) HOWN.out HNZ.out hz1 HI.out (by omega) (by simp; omega) ?_; intro g cap2 w' hown hgr; have HLP : Hid _ := HNX.out g cap2 w' hown hgr; clear hown hgr)
              all_goals
                go_wp2
                go_roundw
                case rel => exact ⟨_, n + nz, cap2, i + 1, rfl, by go_num, by omega, HLP⟩
                case measure => simp [intOf]; omega
        · have hil' : ¬ (i : Int) < (l : Int) := by omega
          have hil2 : i = (P x).length := by rw [HL.out]; omega
          have HBW : Hid (Below w.heap.size w wr) := hlp.out.below
          have d1r := atR_at (HM.out.on hlp.out.below).bx 1 _ rfl
          have hown := hlp.out.own
          rw [hil2, List.take_length] at hown
          cases ao with
          | none =>
            have hnn : n = 0 ∧ cap = 0 := by
              rcases hown.2 with ⟨e, _⟩ | ⟨g, cap', cur, e, _⟩
              · injection e with _ e1 e2; exact ⟨e1, e2⟩
              · injection e with e; cases e
            obtain ⟨rfl, rfl⟩ := hnn
            have hcon : con F (P x) = [] := List.eq_nil_of_length_eq_zero (by have := hown.1; simpa using this)
            have HGA : Hid (Ga P F x w wr none 0 0 []) := ⟨rfl, by omega, by omega, by omega, (fun _ => ⟨rfl, rfl⟩), Or.inl rfl, mz_none hcon, HBW.out⟩
            clear hown hcon hlp
            go_wp2_with fail
            refine (sort_nil wr).mono ?_
            rintro e w' ⟨rfl, hww⟩
            have hww2 := hww.symm
            clear hww
            subst hww2
            go_wp2_with fail
            refine (compact_nil wr).mono ?_
            rintro e w' ⟨rfl, hww⟩
            have hww2 := hww.symm
            clear hww
            subst hww2
            cases hk : κ x with
            | none =>
              have lkk := (HM.out.on HGA.out.below).key x
              rw [hk] at lkk
              have HLKK : Hid ((Instr.lookup 43 (.map (some kb)) (.string x) true).run Try.prog wr = .ok (.tuple #[.int .i32 0, .bool false]) wr) := lkk
              have HK : Hid _ := hk
              clear lkk hk
              go_wp2_with (first | (at_lookup; refine wpList_look rfl _ _ 43 true rfl kb x rfl rfl _ HLKK.out ?_))
              refine (SO.clip_any none 0 0 _ HGA.out.le HGA.out.big (by have := HGA.out.bd; omega) HGA.out.nil).mono ?_
              rintro e w' ⟨rfl, hww⟩
              have hww2 := hww.symm
              clear hww
              subst hww2
              go_wp2
              go_ret
              exact HGA.out.no HK.out
            | some z =>
              have lkk := (HM.out.on HGA.out.below).key x
              rw [hk] at lkk
              have HLKK : Hid ((Instr.lookup 43 (.map (some kb)) (.string x) true).run Try.prog wr = .ok (.tuple #[.int .i32 z, .bool true]) wr) := lkk
              have HK : Hid _ := hk
              clear lkk hk
              go_wp2_with (first | (at_lookup; refine wpList_look rfl _ _ 43 true rfl kb x rfl rfl _ HLKK.out ?_))
              refine (SO.clip_any none 0 0 _ HGA.out.le HGA.out.big (by have := HGA.out.bd; omega) HGA.out.nil).mono ?_
              rintro e w' ⟨rfl, hww⟩
              have hww2 := hww.symm
              clear hww
              subst hww2
              have HI2 : Hid (I21 (wr.alloc (.cells #[.int .i32 z] 21)) none []) := HGA.out.ints.kp (kp_below ((Below.refl _ _).alloc (Nat.le_refl _) _))
              go_wp2_with (first | (at_builtin; go_loud (refine wpList_key rfl _ _ rfl none 0 wr.heap.size [] z rfl rfl HGA.out.len (fun c => (HGA.out.nil c).1) HI2.out (at_new rfl) (by have := HGA.out.bd; omega) ?_); intro g cap2 w3 hown hgr; obtain ⟨q1, q2, q3, hpost⟩ := HGA.out.yes HK.out hown hgr; have HPO : Hid _ := hpost; clear hown hgr hpost))
              refine (SO.clip_any (some ⟨g, 0, none⟩) (0 + 1) cap2 _ q1 q2 q3 (fun c => by cases c)).mono ?_
              rintro e w' ⟨rfl, hww⟩
              have hww2 := hww.symm
              clear hww
              subst hww2
              go_wp2
              go_ret
              exact HPO.out
          | some ag =>
            obtain ⟨g, rfl⟩ : ∃ g, ag = ⟨g, 0, none⟩ := by
              rcases hown.2 with ⟨e, _⟩ | ⟨g, cap', cur, e, _⟩
              · injection e with e; cases e
              · injection e with e; injection e with e; exact ⟨g, e⟩
            obtain ⟨hnl, hnc, hcm, hgb, V, hrow⟩ := own_row hown
            have HNL : Hid _ := hnl
            have HROW : Hid _ := hrow
            have hcm2 : cap ≤ 9223372036854775807 := by unfold maxLen at hcm; exact hcm
            clear hown hlp hnl hrow hcm
            go_wp2_with fail
            refine (SO.sort_any g n cap V (fn (con F (P x))) wr (by omega) HROW.out).mono ?_
            rintro e w1 ⟨d, rfl, hsw, hsd, hsr⟩
            have HSR : Hid _ := hsr
            have HSW : Hid _ := hsw
            have HSD : Hid _ := hsd
            clear hsr hsw hsd
            go_wp2_with fail
            refine (SO.compact_any g n cap V d w1 hnc hcm2 (by omega) HSD.out HSR.out.row).mono ?_
            rintro e w2 ⟨m, d', rfl, hm, hd1, hd2, hsr2⟩
            have HGA : Hid (Ga P F x w w2 (some ⟨g, 0, none⟩) m cap (lst d' m)) := ⟨(lst_len _ _).symm, by omega, hcm2, by omega, (fun c => by cases c), row_i21 hsr2.row hm, mz_sorted HNL.out HSW.out hd1 hd2, below_grown (below_grown HBW.out HSR.out.fr HBW.out.size (fun k hk => by injection hk with hk; omega)) hsr2.fr (by have := HBW.out.size; have := HSR.out.fr.size; omega) (fun k hk => by injection hk with hk; omega)⟩
            have d1s := atR_at (HM.out.on HGA.out.below).bx 1 _ rfl
            clear hd1 hd2 hsr2
            cases hk : κ x with
            | none =>
              have lkk := (HM.out.on HGA.out.below).key x
              rw [hk] at lkk
              have HLKK : Hid ((Instr.lookup 43 (.map (some kb)) (.string x) true).run Try.prog w2 = .ok (.tuple #[.int .i32 0, .bool false]) w2) := lkk
              have HK : Hid _ := hk
              clear lkk hk
              go_wp2_with (first | (at_lookup; refine wpList_look rfl _ _ 43 true rfl kb x rfl rfl _ HLKK.out ?_))
              refine (SO.clip_any (some ⟨g, 0, none⟩) m cap _ HGA.out.le HGA.out.big (by have := HGA.out.bd; omega) HGA.out.nil).mono ?_
              rintro e w' ⟨rfl, hww⟩
              have hww2 := hww.symm
              clear hww
              subst hww2
              go_wp2
              go_ret
              exact HGA.out.no HK.out
            | some z =>
              have lkk := (HM.out.on HGA.out.below).key x
              rw [hk] at lkk
              have HLKK : Hid ((Instr.lookup 43 (.map (some kb)) (.string x) true).run Try.prog w2 = .ok (.tuple #[.int .i32 z, .bool true]) w2) := lkk
              have HK : Hid _ := hk
              clear lkk hk
              go_wp2_with (first | (at_lookup; refine wpList_look rfl _ _ 43 true rfl kb x rfl rfl _ HLKK.out ?_))
              refine (SO.clip_any (some ⟨g, 0, none⟩) m cap _ HGA.out.le HGA.out.big (by have := HGA.out.bd; omega) HGA.out.nil).mono ?_
              rintro e w' ⟨rfl, hww⟩
              have hww2 := hww.symm
              clear hww
              subst hww2
              have HI2 : Hid (I21 (w2.alloc (.cells #[.int .i32 z] 21)) (some ⟨g, 0, none⟩) (lst d' m)) := HGA.out.ints.kp (kp_below ((Below.refl _ _).alloc (Nat.le_refl _) _))
              go_wp2_with (first | (at_builtin; go_loud (refine wpList_key rfl _ _ rfl (some ⟨g, 0, none⟩) m w2.heap.size (lst d' m) z rfl rfl HGA.out.len (fun c => (HGA.out.nil c).1) HI2.out (at_new rfl) (by have := HGA.out.bd; omega) ?_); intro g2 cap2 w3 hown hgr; obtain ⟨q1, q2, q3, hpost⟩ := HGA.out.yes HK.out hown hgr; have HPO : Hid _ := hpost; clear hown hgr hpost))
              refine (SO.clip_any (some ⟨g2, 0, none⟩) (m + 1) cap2 _ q1 q2 q3 (fun c => by cases c)).mono ?_
              rintro e w' ⟨rfl, hww⟩
              have hww2 := hww.symm
              clear hww
              subst hww2
              go_wp2
              go_ret
              exact HPO.out

end Go.Proofs.Qxb6603449a.BL
