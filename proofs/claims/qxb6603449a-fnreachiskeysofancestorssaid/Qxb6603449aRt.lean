import Derived.Test.Qxb6603449aRr
import Derived.Deep.RegionHeld3
namespace Go.Proofs.Qxb6603449a.BL
open Go.RowKit Go.ChangeMaps Go.MapKept
set_option linter.unusedVariables false
set_option linter.unusedSimpArgs false
set_option maxRecDepth 100000 in
set_option maxHeartbeats 16000000 in
theorem reach_any (mb ib kb rb : Nat) (P : St → List St) (κ : St → Option Int) (name : St) (rk : St → Nat) (Nd : List St) (Li Lk : List (St × Value)) (w : World) (hG : Giv P κ name rk Nd) (hm : Mem w mb ib kb rb P κ Li Lk []) (h1 : ib ≠ rb) (h2 : kb ≠ rb) :
    Calls Try.prog 32 #[.pointer (some ⟨mb, 0, none⟩), .string name] w fun e w' => RePost P κ name rb w e w' := by
  have HM : Hid (Mem w mb ib kb rb P κ Li Lk []) := hm
  have HG : Hid (Giv P κ name rk Nd) := hG
  have d0 := atR_at hm.bx 0 _ rfl
  have d2 := atR_at hm.bx 2 _ rfl
  obtain ⟨ai, ci, lk, hci, hai, hls⟩ := hm.look name
  have lk0 := look_ok 74 34 Try.underlying74 _ (zero34 _) hm.rm name
  have HLK : Hid _ := lk
  have HLK0 : Hid ((Instr.lookup 74 (.map (some rb)) (.string name) true).run Try.prog w = .ok (.tuple #[.slice none 0 0, .bool false]) w) := lk0
  have H0 : Hid (Rq w mb ib kb rb P κ name Nd Li Lk (.slice (some ⟨w.heap.size, 0, none⟩) 1 1) (w.alloc (.cells #[.string name, .slice ai (P name).length ci] 82)) (wgt P (fun _ => none) [(name, P name)] Nd + plen [(name, P name)])) := by
    have hb : Below w.heap.size w (w.alloc (.cells #[.string name, .slice ai (P name).length ci] 82)) := (Below.refl _ _).alloc (Nat.le_refl _) _
    refine ⟨fun _ => none, [], [(name, P name)], [.string name, .slice ai (P name).length ci], ⟨World.ownsRow_lit w #[.string name, .slice ai (P name).length ci] 1 (Nat.le_refl _) (by unfold maxLen; omega) (by rfl), ⟨[], ai, ci, rfl, hci, hls.kp (kp_below hb), rfl⟩, hm.on hb, fun y => Or.inl ⟨rfl, rfl⟩, grown_mono (grown_of_below hb)⟩, pth_start rfl, (fun y Z h => by cases h), (fun h => by cases h), rfl⟩
  clear lk lk0 hls hai hci hm hG
  obtain ⟨q0, hq0⟩ : ∃ q0, (P name).length = q0 := ⟨_, rfl⟩
  rw [hq0] at H0 HLK
  clear hq0
  go_enter Try.func32, Try.ntmps32
  go_upto_region 4 with (first | (at_lookup; refine wpList_look rfl _ _ 74 true rfl rb name rfl rfl _ HLK0.out ?_))
  go_wp2_with (first | (at_lookup; refine wpList_look rfl _ _ 51 false rfl ib name rfl rfl _ HLK.out ?_))
  go_loopw [7] (fun v7 wx => ∃ m, Rq w mb ib kb rb P κ name Nd Li Lk v7 wx m) (fun v7 wx => lm (Rq w mb ib kb rb P κ name Nd Li Lk v7 wx))
  case atStart => exact ⟨_, H0.out⟩
  case round =>
    obtain ⟨F, Lr, l, xs, hd⟩ := lm_spec hrel
    have hm0 := hd.m
    have HM0 : Hid _ := hm0
    clear hm0 hrel H0 HLK HLK0
    cases l with
    | nil =>
      obtain ⟨ao, cap, rfl⟩ := own_nil_or hd.s.own
      obtain ⟨az, Z, lkz, hpost⟩ := hd.fin
      obtain ⟨nz, hnz⟩ : ∃ nz, Z.length = nz := ⟨_, rfl⟩
      rw [hnz] at lkz hpost
      have e2 := atR_at hd.s.mem.bx 2 _ rfl
      have HLZ : Hid _ := lkz
      have HPO : Hid _ := hpost
      clear hd lkz hpost hnz HM0
      go_wp2_with (first | (at_lookup; refine wpList_look rfl _ _ 74 false rfl rb name rfl rfl _ HLZ.out ?_))
      go_ret
      exact HPO.out
    | cons q l =>
      obtain ⟨c, left⟩ := q
      obtain ⟨g, cap, ys, ao, cp, hv, hgs, hgl, hlc, hcs, hxs, hcp, hls, hcl, c1, c2, c3⟩ := hd.s.top
      subst hv
      subst hxs
      have hsh := hd.short HG.out
      rw [List.length_cons] at hsh
      have e0 := atR_at hd.s.mem.bx 0 _ rfl
      have e2 := atR_at hd.s.mem.bx 2 _ rfl
      have HCL : Hid (Cl wr l ys) := hcl
      have HD : Hid _ := hd
      cases left with
      | nil =>
        have HPOP : Hid (∀ w2, wr.grownBy w2 none → _) := fun w2 hb => HD.out.pops HCL.out HG.out h1 h2 (w2 := w2) hb
        clear hd hcl hls hcp hcs HD HCL
        simp only [List.length_nil] at c2
        generalize hkk : l.length = k at *
        go_wp2_with fail
        refine (up_nil g (k * 2) cp ao wr c2 hgl).mono ?_
        rintro e w1 ⟨rfl, hb1⟩
        have hb2 : Below wr.heap.size wr (w1.alloc (.cells #[.string ByteArray.empty, .int .i64 0] 79)).drew := below_drew (hb1.alloc hb1.size _)
        obtain ⟨hmem, hrdm, hall, hfl, hnext⟩ := HPOP.out _ (grown_of_below hb2)
        have HMEM : Hid _ := hmem
        have HRDM : Hid _ := hrdm
        have HALL : Hid _ := hall
        have HFL : Hid _ := hfl
        have HNEXT : Hid _ := hnext
        have f2 : (w1.alloc (.cells #[.string ByteArray.empty, .int .i64 0] 79)).cell? ⟨mb, 2, none⟩ = some (.map (some rb)) := atR_at hmem.bx 2 _ rfl
        have f1 : (w1.alloc (.cells #[.string ByteArray.empty, .int .i64 0] 79)).cell? ⟨g, k * 2, none⟩ = some (.string c) := (hb2.cell (p := ⟨g, k * 2, none⟩) hgl).trans c1
        clear hmem hrdm hall hfl hnext HPOP c1 c2 c3 e0 e2 hb1 hb2
        go_wp2
        go_region_held3 (fun w' => w'.cell? ⟨mb, 2, none⟩ = some (.map (some rb)) ∧ w'.cell? ⟨g, k * 2, none⟩ = some (.string c)) (go_keep) ((go_at_call 37; refine (gather_any mb ib kb rb P κ Li Lk Lr F c _ HMEM.out HRDM.out HALL.out (HG.out.pl c) HFL.out).mono ?_; rintro e w3 ⟨az, Z, rfl, hgz, hz0, hI, hbl⟩; obtain ⟨q1, q2, w4, m', hup, q3, q4, hrq, hlt⟩ := HNEXT.out w3 az Z hgz hz0 hI hbl; have HRQ : Hid _ := hrq; have HLT : Hid _ := hlt; clear hgz hz0 hI hbl hrq hlt))
        all_goals
          go_wp2
          go_roundw
          case rel => exact ⟨m', HRQ.out⟩
          case measure => rw [HM0.out]; exact Nat.lt_of_le_of_lt (lm_le HRQ.out) HLT.out
      | cons p left =>
        obtain ⟨g', off, a, hao, hgl', ⟨cs', hcs'⟩, x1, x2, htl⟩ := hls.tl
        subst hao
        obtain ⟨cs, hcs⟩ := hcs
        have hne : g' ≠ g := fun c => by
          rw [c, hcs] at hcs'; injection hcs' with e; injection e with _ e; cases e
        simp only [List.length_cons] at hcp c2
        have HUP : Hid (∀ w1 ao', (left.length ≠ 0 → ao' = some ⟨g', off + 2, none⟩) → wr.grownBy w1 (some g) → w1.heap[g]? = (wr.setCell ⟨g, l.length * 2 + 1, none⟩ (.slice ao' left.length (cp - 1))).heap[g]? → ∃ xs', Rs w w1 mb ib kb rb P κ Li Lk (.slice (some ⟨g, 0, none⟩) (l.length + 1) cap) F Lr ((c, left) :: l) xs') := fun w1 ao' ho hg hw => HD.out.ups HCL.out hcp hgs (htl ao' ho) hg hw
        have HPT : Hid _ := HD.out.p
        have HFO : Hid _ := HD.out.f
        have HNEW : Hid (∀ (wa w5 : World) (v5 : Value) (xs5 : List Value) (g5 cap5 cp5 : Nat) (ap : Option Addr), _ → _ → _ → _ → _ → _ → _) := fun wa w5 v5 xs5 g5 cap5 cp5 ap hrs hn hc hls hown hg => Rs.new (wr := wa) (w1 := w5) (v := v5) (xs := xs5) (g := g5) (cap := cap5) (cp := cp5) (ap := ap) (Nd := Nd) (left := left) (l := l) (c := c) (p := p) (F := F) (Lr := Lr) (Li := Li) (Lk := Lk) (P := P) (κ := κ) (name := name) (mb := mb) (ib := ib) (kb := kb) (rb := rb) (w := w) hrs HG.out HPT.out HFO.out hn hc hls hown hg
        clear hd hcl hls htl HD HCL hcs hcs' e0 e2
        generalize hkk : l.length = k at *
        generalize hnn : left.length = n at *
        go_wp2_with fail
        refine (up_some g (k * 2) n g' off cp p a wr c2 c3 hcp hgl hgl' hne x1 x2).mono ?_
        rintro e w1 ⟨rfl, ao', hgr, hhp, hao', _⟩
        obtain ⟨xs', hrs⟩ := HUP.out w1 ao' hao' hgr hhp
        obtain ⟨w3, hw3⟩ : ∃ w3, w3 = (w1.alloc (.cells #[.string p, .int .i64 a] 79)).drew := ⟨_, rfl⟩
        have hg3 : w1.grownBy w3 none := by rw [hw3]; exact grown_andThen (grown_alloc w1 _) (grown_drew _)
        have hrs3 := hrs.grow hg3
        have s0 : w1.heap.size < w3.heap.size := by rw [hw3]; simp
        have f2 : (w1.alloc (.cells #[.string p, .int .i64 a] 79)).cell? ⟨mb, 2, none⟩ = some (.map (some rb)) := by
          have := atR_at hrs3.mem.bx 2 _ rfl; rw [hw3] at this; exact this
        have f0 := atR_at hrs3.mem.bx 0 _ rfl
        have hszw := hrs3.gr.size
        clear HUP hgr hhp hao' c1 c2 c3 x1 x2 hrs
        have lk := look_ok 74 34 Try.underlying74 _ (zero34 _) hrs3.mem.rm p
        have HW3 : Hid _ := hw3
        rcases hrs3.rd p with ⟨hF, hget⟩ | ⟨Zp, azp, hF, hget, _⟩
        · rw [hget, hw3] at lk
          have hlk : (Instr.lookup 74 (.map (some rb)) (.string p) true).run Try.prog (w1.alloc (.cells #[.string p, .int .i64 a] 79)).drew = .ok (.tuple #[.slice none 0 0, .bool false]) (w1.alloc (.cells #[.string p, .int .i64 a] 79)).drew := lk
          have HRS3 : Hid _ := hrs3
          have HF : Hid _ := hF
          have t9 : w3.cell? ⟨w1.heap.size, 0, none⟩ = some (.string p) := by rw [hw3]; simp
          clear lk hget hrs3 hF hw3
          go_wp2
          go_region
          all_goals
            rw [← HW3.out]
            obtain ⟨ap, cpp, lk51, hcpp, _, hls51⟩ := (HRS3.out.grow (grown_drew w3)).mem.look p
            have hga : w3.grownBy (w3.alloc (.cells #[.string p, .slice ap (P p).length cpp] 82)).drew none := grown_andThen (grown_alloc w3 _) (grown_drew _)
            have hrsa := HRS3.out.grow hga
            have hlsp : LsRd (w3.alloc (.cells #[.string p, .slice ap (P p).length cpp] 82)).drew ap (P p) := LsRd.kp (w := w3) hls51 (kp_grown hga (fun k c => by cases c))
            have HNX : Hid (∀ (w5 : World) (g5 cap5 : Nat), _ → _ → _) := fun w5 g5 cap5 hown hg => HNEW.out _ w5 _ _ g5 cap5 cpp ap hrsa HF.out hcpp hlsp hown hg
            have HOWN : Hid _ := hrsa.own
            simp only [List.length_cons, hkk] at HOWN
            clear hlk HW3 f2 hga hrsa hlsp hls51 HNEW
            generalize (P p).length = np at *
            go_wp2
            go_region_law (refine step_push82 rfl (.tmp 59) (.tmp 70) rfl w.heap.size (k + 1) w3.heap.size (.slice (some ⟨g, 0, none⟩) (k + 1) cap) (.string p) (.slice ap np cpp) xs' (by simp [Act.eval, Act.put]) (by simp [Act.eval, Act.put]) HOWN.out (at_new rfl) rfl rfl (by omega) (by simp; omega) ?_; intro g5 cap5 w5 hown hgr; obtain ⟨m', hrq, hlt⟩ := HNX.out w5 g5 cap5 hown hgr; have HRQ : Hid _ := hrq; have HLT : Hid _ := hlt; clear hown hgr hrq hlt)
            all_goals
              go_simp
              go_wp2
              go_roundw
              case rel => exact ⟨m', HRQ.out⟩
              case measure => rw [HM0.out]; exact Nat.lt_of_le_of_lt (lm_le HRQ.out) HLT.out
        · obtain ⟨nz, hnz⟩ : ∃ nz, Zp.length = nz := ⟨_, rfl⟩
          rw [hget, hnz] at lk
          obtain ⟨m', hrq, hlt⟩ := hrs3.old (Nd := Nd) HPT.out HFO.out (by rw [hF]; simp)
          rw [hw3] at lk hrq
          have hlk : (Instr.lookup 74 (.map (some rb)) (.string p) true).run Try.prog (w1.alloc (.cells #[.string p, .int .i64 a] 79)).drew = .ok (.tuple #[.slice azp nz nz, .bool true]) (w1.alloc (.cells #[.string p, .int .i64 a] 79)).drew := lk
          have HRQ : Hid _ := hrq
          have HLT : Hid _ := hlt
          clear lk hget hrs3 hF hrq hlt hnz hw3 HW3 f0 s0 hszw hg3
          go_wp2
          go_region
          all_goals
            go_wp2
            go_roundw
            case rel => exact ⟨m', HRQ.out⟩
            case measure => rw [HM0.out]; exact Nat.lt_of_le_of_lt (lm_le HRQ.out) HLT.out
end Go.Proofs.Qxb6603449a.BL
