import Derived.Test.Qxb6603421aSd7
import Derived.LaidEqlPtr
namespace Go.Proofs.Qxb6603421a.SD
open Go.RowKit Go.Proofs.Qxb6603421a.RI
set_option linter.unusedVariables false
set_option linter.unusedSimpArgs false

def BgPost (ga gb N : Nat) (G T : List Ky) (w : World) (e : Ending) (w' : World) : Prop := ∃ Q T', e = .returned (.tuple #[]) ∧ SS (rk false) Q G ∧ (T' = T ∨ T'.Perm G) ∧ Duo ga gb N Q T' w w'

theorem Duo.copy {ga gb N : Nat} {A B : List Ky} {w wr : World} (h : Duo ga gb N A B w wr) : Duo ga gb N B B w (wr.setRow ga (kflat B).toArray) :=
  ⟨setRow_heap wr ga _ _ 57 _ h.a, (setRow_other wr ga gb _ (fun e => h.ne e.symm)).trans h.b, h.ne, h.la, h.lb, below_setRow h.below h.la _⟩
theorem neq80_same (w : World) (g : Nat) : (binOp .neq 80 (.pointer (some ⟨g, 0, none⟩)) (.pointer (some ⟨g, 0, none⟩))).run Try.prog w = .ok (.bool false) w := by
  obtain ⟨i, hi, hz0, hz1, hz2⟩ := info_parts info57
  have h : ∀ d : Nat, (Op.equalIn (d + 1) 80 (.pointer (some ⟨g, 0, none⟩)) (.pointer (some ⟨g, 0, none⟩))).run Try.prog w = .ok true w := fun d => by
    simp [Op.equalIn, run_underlying Try.underlying80, sizeOf, typeInfo, hi, run_sameAddr_same]
  simp only [binOp]
  simp [Op.equal, Op.maxDepth, h 9999]
theorem neq80_other {w : World} {ga gb : Nat} {A B : List Ky} (ha : atK w ga 57 A) (hb : atK w gb 57 B) (hne : ga ≠ gb) : (binOp .neq 80 (.pointer (some ⟨ga, 0, none⟩)) (.pointer (some ⟨gb, 0, none⟩))).run Try.prog w = .ok (.bool true) w := by
  obtain ⟨i, hi, hz0, hz1, hz2⟩ := info_parts info57
  have hne2 : (⟨ga, 0, none⟩ : Addr) ≠ ⟨gb, 0, none⟩ := fun e => hne (by injection e)
  have h : ∀ d : Nat, (Op.equalIn (d + 1) 80 (.pointer (some ⟨ga, 0, none⟩)) (.pointer (some ⟨gb, 0, none⟩))).run Try.prog w = .ok false w := fun d => by
    simp [Op.equalIn, run_underlying Try.underlying80, sizeOf, typeInfo, hi, hz1, run_sameAddr_other w hne2 ha hb]
  simp only [binOp]
  simp [Op.equal, Op.maxDepth, h 9999]
theorem ss_perm {a : Nat} {L G : List Ky} (h : SS (fun x => kw x % 256 ^ a) L G) : L.Perm G := by
  rw [List.perm_iff_count]
  intro x
  have e := congrArg (List.count x) (h.2 (kw x % 256 ^ a))
  rw [List.count_filter (by simp), List.count_filter (by simp)] at e
  exact e

set_option maxRecDepth 100000 in
set_option maxHeartbeats 8000000 in
theorem big (ga gb N : Nat) (G T : List Ky) (w : World) (hn : 32 < G.length) (hm : G.length ≤ 32768) (hT : T.length = G.length) (hd : Duo ga gb N G T w w) (hok : Okl G) :
    Calls Try.prog 30 #[.slice (some ⟨ga, 0, none⟩) G.length G.length, .slice (some ⟨gb, 0, none⟩) G.length G.length] w fun e w' => BgPost ga gb N G T w e w' := by
  have HD : Hid _ := hd
  have HOK : Hid (Okl G) := hok
  have HT : Hid _ := hT
  clear hd hok hT
  have n1 : decide ((G.length : Int) ≤ 32) = false := by simp only [decide_eq_false_iff_not]; omega
  go_enter Try.func30, Try.ntmps30
  go_wp2
  go_loopw [6, 7, 73] (fun va vo vi wx => ∃ A O i : Nat, va = .int .u64 A ∧ vo = .int .u64 O ∧ vi = .int .i64 i ∧ i ≤ G.length ∧ Hid (Bits A O G i) ∧ w = wx)
    (fun _ _ vi _ => G.length - (intOf vi).toNat)
  case atStart => exact ⟨18446744073709551615, 0, 0, rfl, rfl, rfl, by omega, bits_zero G, rfl⟩
  case round =>
    obtain ⟨A, O, i, rfl, rfl, rfl, hi, hbits, rfl⟩ := hrel
    by_cases hl : i < G.length
    · have c1 := atK_w HD.out.a i hl
      have ox := (okl_at HOK.out i hl).1
      obtain ⟨x1, hx1⟩ : ∃ x1, (G.getD i (0, 0)).1 = x1 := ⟨_, rfl⟩
      rw [hx1] at c1 ox
      have HX : Hid _ := hx1
      have OX : Hid _ := ox
      clear hx1 ox
      have li : (i : Int) < (G.length : Int) := by omega
      go_wp2
      go_roundw
      case rel => exact ⟨A &&& x1, O ||| x1, i + 1, by rw [u64_and_nat A x1 hbits.out.1 OX.out], by rw [u64_or_nat O x1 hbits.out.2.1 OX.out], by go_num, by omega, hbits.out.next hl x1 HX.out OX.out, trivial⟩
      case measure => simp [intOf]; omega
    · have li : ¬ (i : Int) < (G.length : Int) := by omega
      have HB : Hid (Bits A O G G.length) := by have e : i = G.length := by omega
                                                rw [← e]; exact hbits
      have hs0 : atS (w.alloc (.cells #[.int .i64 0, .int .i64 0, .int .i64 0, .int .i64 0, .int .i64 0, .int .i64 0, .int .i64 0, .int .i64 0] 75)) w.heap.size [] := heap_alloc_new w _
      have HS0 : Hid _ := hs0
      clear hs0 hbits
      go_upto_region 17 with fail
      go_wp2
      go_loopw [91, 10] (fun vb vp wx => ∃ (b : Nat) (ps : List Nat), vb = .int .i64 b ∧ vp = .int .i64 ps.length ∧ b ≤ 8 ∧ ps.length ≤ b ∧ Hid (Sel G b ps) ∧ Hid (atS wx w.heap.size ps) ∧ Hid (Duo ga gb N G T w wx))
        (fun vb _ _ => 8 - (intOf vb).toNat)
      case atStart => exact ⟨0, [], rfl, rfl, by omega, Nat.le_refl _, sel_zero G, HS0, HD.out.on ((Below.refl _ _).alloc (Nat.le_refl _) _)⟩
      case round =>
        obtain ⟨b, ps, rfl, rfl, hb, hp, hsel, hat, hdu⟩ := hrel
        clear HS0
        by_cases hb8 : b < 8
        · have hb8' : (b : Int) < 8 := by omega
          have hp8 : ps.length < 8 := by omega
          have hp8' : (ps.length : Int) < 8 := by omega
          obtain ⟨t, ht⟩ : ∃ t, (bits BinOp.xor IntKind.u64 (A : Int) (O : Int) / 2 ^ (8 * b) % 256 != 0) = t := ⟨_, rfl⟩
          cases t
          · have hz : Hid ((A ^^^ O) / 256 ^ b % 256 = 0) := by
              unfold Hid
              rw [u64_xor_nat A O HB.out.1 HB.out.2.1] at ht
              simp only [bne_eq_false_iff_eq] at ht
              rw [show (256 : Nat) ^ b = 2 ^ (8 * b) from by rw [show (256 : Nat) = 2 ^ 8 from rfl, ← Nat.pow_mul]]
              exact_mod_cast ht
            go_wp2
            go_roundw
            case rel => exact ⟨b + 1, ps, by go_num, rfl, by omega, by omega, hsel.out.pass _ (shared HB.out b hz.out), hat, hdu⟩
            case measure => simp [intOf]; omega
          · have c1 := atS_zero hat.out hp8
            have f1 := atS_fr hat.out ps.length
            go_wp2
            go_roundw
            case rel =>
              have e8 : Value.int .i64 (8 * (b : Int)) = Value.int .i64 ((8 * b : Nat) : Int) := by go_num
              refine ⟨b + 1, ps ++ [b], by go_num, by simp, by omega, by simp; omega, hsel.out.add, ?_, ?_⟩
              · have := atS_set hat.out b hp8; rw [← e8] at this; exact this
              · exact hdu.out.far _ _ (by have := atK_lt HD.out.a; simp only; omega) (by have := atK_lt HD.out.b; simp only; omega) (by have := atK_lt HD.out.a; have := HD.out.la; simp only; omega)
            case measure => simp [intOf]; omega
        · have hb8' : ¬ (b : Int) < 8 := by omega
          have HSEL : Hid (Sel G 8 ps) := by have e : b = 8 := by omega
                                             rw [← e]; exact hsel
          have hbig : Big ga gb w.heap.size wr.heap.size N G T ps (fun _ => 0) w (wr.alloc (.cells (cc fun _ => 0) 78)) := by
            have q1 := atK_lt HD.out.a
            have q2 := atK_lt HD.out.b
            have q3 := HD.out.la
            have q4 := atS_lt hat.out
            refine ⟨hdu.out.on ((Below.refl _ _).alloc (Nat.le_refl _) _), ?_, heap_alloc_new wr _, by omega, by omega, by omega, by omega, by omega, by omega, by omega⟩
            unfold atS; rw [Below.heap_alloc wr _ _ q4]; exact hat.out
          have HBIG : Hid _ := hbig
          clear hbig hsel hat hdu
          have hp8 : ps.length ≤ 8 := by omega
          have hp8' : (ps.length : Int) ≤ 8 := by omega
          go_wp2_with (with_reducible refine wpList_alloc78 rfl rfl ?_)
          generalize wr.heap.size = gc at HBIG ⊢
          generalize w.heap.size = gs at HBIG ⊢
          go_loopw [112] (fun vi wx => ∃ (p : Nat) (F : Nat → Nat), vi = .int .i64 p ∧ p ≤ ps.length ∧ Hid (Cnt F ps G p 0) ∧ Hid (Big ga gb gs gc N G T ps F w wx))
            (fun vi _ => ps.length - (intOf vi).toNat)
          case atStart => exact ⟨0, _, rfl, by omega, cnt_zero ps G, HBIG⟩
          case round =>
            obtain ⟨p, F, rfl, hp, hcnt, hbg⟩ := hrel
            clear HBIG
            by_cases hpl : p < ps.length
            · have hpl' : (p : Int) < (ps.length : Int) := by omega
              have hp8a : p < 8 := by omega
              have hp8b : (p : Int) < 8 := by omega
              have cs := atS_at hbg.out.s p hpl
              have hnx := nx_le HSEL.out p
              obtain ⟨sh, hsh⟩ : ∃ sh, sh = 8 * nx ps p := ⟨_, rfl⟩
              rw [← hsh] at cs
              have sh64 : sh ≤ 64 := by omega
              have HSH : Hid _ := hsh
              clear hsh hnx
              go_wp2
              go_loopw [121] (fun vi wx => ∃ (i : Nat) (F : Nat → Nat), vi = .int .i64 i ∧ i ≤ G.length ∧ Hid (Cnt F ps G p i) ∧ Hid (Big ga gb gs gc N G T ps F w wx))
                (fun vi _ => G.length - (intOf vi).toNat)
              case atStart => exact ⟨0, F, rfl, by omega, hcnt, hbg⟩
              case round =>
                clear hcnt hbg F cs
                obtain ⟨i, F, rfl, hi, hcnt, hbg⟩ := hrel
                by_cases hil : i < G.length
                · have li : (i : Int) < (G.length : Int) := by omega
                  have c1 := atK_w hbg.out.duo.a i hil
                  obtain ⟨x1, hx1⟩ : ∃ x1, (G.getD i (0, 0)).1 = x1 := ⟨_, rfl⟩
                  rw [hx1] at c1
                  obtain ⟨d, hd⟩ : ∃ d, x1 / 2 ^ sh % 256 = d := ⟨_, rfl⟩
                  have d256 : d < 256 := by omega
                  have d256' : (d : Int) < 256 := by omega
                  have hdi : (x1 : Int) / 2 ^ sh % 256 = (d : Int) := by rw [← hd]; simp
                  have hdg : Hid (dg kw (nx ps p) (G.getD i (0, 0)) = d) := by
                    unfold Hid dg kw
                    rw [hx1, ← hd, HSH.out, show (256 : Nat) ^ nx ps p = 2 ^ (8 * nx ps p) from by rw [show (256 : Nat) = 2 ^ 8 from rfl, ← Nat.pow_mul]]
                  have c2 := atC_at hbg.out.c (p * 256 + d) (by omega)
                  have f2 := atC_fr hbg.out.c (p * 256 + d)
                  have hle : F (p * 256 + d) ≤ G.length := by
                    rw [hcnt.out.2.1 d d256]
                    exact Nat.le_trans (cnt_take _ _ _ _ _) (cnt_le _ _ _)
                  obtain ⟨c, hc⟩ : ∃ c, F (p * 256 + d) = c := ⟨_, rfl⟩
                  rw [hc] at c2 hle
                  have HC : Hid _ := hc
                  have ne1 : ga ≠ gc := hbg.out.ac
                  have ne2 : gc ≠ ga := fun e => ne1 e.symm
                  clear hc hx1 hd
                  go_wp2
                  go_region
                  go_wp2
                  go_roundw
                  case rel => exact ⟨i + 1, upd F (p * 256 + d) (F (p * 256 + d) + 1), by go_num, by omega, hcnt.out.next hil d hdg.out, by rw [HC.out]; exact (hbg.out.on (below_drewN (Below.refl _ _) _)).count (p * 256 + d) (c + 1)⟩
                  case measure => simp [intOf]; omega
                · have li : ¬ (i : Int) < (G.length : Int) := by omega
                  have hfin : Hid (Cnt F ps G (p + 1) 0) := by
                    have e : i = G.length := by omega
                    have := hcnt.out; rw [e] at this; exact this.turn
                  clear hcnt
                  go_wp2
                  go_roundw
                  case rel => exact ⟨p + 1, F, by go_num, by omega, hfin, hbg⟩
                  case measure => simp [intOf]; omega
            · have hpl' : ¬ (p : Int) < (ps.length : Int) := by omega
              have hrest : Hid (Rest F ps G 0) := by
                have e : p = ps.length := by omega
                have := hcnt.out; rw [e] at this; exact this.rest
              clear hcnt
              go_wp2
              go_loopw [17, 18, 146] (fun va vb vi wx => ∃ (g1 g2 p : Nat) (L D : List Ky) (F : Nat → Nat), va = .slice (some ⟨g1, 0, none⟩) G.length G.length ∧ vb = .slice (some ⟨g2, 0, none⟩) G.length G.length ∧ vi = .int .i64 p ∧ p ≤ ps.length ∧
                  Hid ((g1 = ga ∧ g2 = gb) ∨ (g1 = gb ∧ g2 = ga)) ∧ Hid (L.length = G.length ∧ D.length = G.length) ∧ Hid (SS (fun x => kw x % 256 ^ (nx ps p)) L G ∧ (D = T ∨ D.Perm G)) ∧ Hid (Rest F ps G p) ∧ Hid (Big g1 g2 gs gc N L D ps F w wx))
                (fun _ _ vi _ => ps.length - (intOf vi).toNat)
              case atStart => exact ⟨ga, gb, 0, G, T, F, rfl, rfl, rfl, by omega, Or.inl ⟨rfl, rfl⟩, ⟨rfl, HT.out⟩, ⟨sel_first HSEL.out, Or.inl rfl⟩, hrest, hbg⟩
              case round =>
                clear hbg hrest hpl hpl' hp
                obtain ⟨g1, g2, p, L, D, F, rfl, rfl, rfl, hp, hg, hlen, hss, hrest, hbg⟩ := hrel
                by_cases hpl : p < ps.length
                · have hpl' : (p : Int) < (ps.length : Int) := by omega
                  have hp8a : p < 8 := by omega
                  have hp8b : (p : Int) < 8 := by omega
                  have cs := atS_at hbg.out.s p hpl
                  have hnx := nx_le HSEL.out p
                  obtain ⟨sh, hsh⟩ : ∃ sh, sh = 8 * nx ps p := ⟨_, rfl⟩
                  rw [← hsh] at cs
                  have sh64 : sh ≤ 64 := by omega
                  have HSH : Hid _ := hsh
                  clear hsh hnx
                  have hpre : Hid (Pre F (nx ps p) L p 0 ∧ Rest F ps G (p + 1)) :=
                    ⟨⟨fun v hv => by omega, fun v _ hv => by rw [hrest.out p (Nat.le_refl _) hpl v hv]; exact (ss_cnt hss.out.1).symm⟩, fun q h1 h2 => hrest.out q (by omega) h2⟩
                  clear hrest
                  go_wp2
                  go_loopw [22, 154] (fun va vi wx => ∃ (k s : Nat) (F : Nat → Nat), va = .int .u32 s ∧ vi = .int .i64 k ∧ k ≤ 256 ∧ s ≤ G.length ∧ Hid (s = start kw (nx ps p) L k) ∧ Hid (Pre F (nx ps p) L p k ∧ Rest F ps G (p + 1)) ∧ Hid (Big g1 g2 gs gc N L D ps F w wx))
                    (fun _ vi _ => 256 - (intOf vi).toNat)
                  case atStart => exact ⟨0, 0, F, rfl, rfl, by omega, by omega, rfl, hpre, hbg⟩
                  case round =>
                    clear hpre hbg
                    obtain ⟨k, s, F, rfl, rfl, hk, hs, hst, hpre, hbg⟩ := hrel
                    by_cases hkl : k < 256
                    · have hkl' : (k : Int) < 256 := by omega
                      have c2 := atC_at hbg.out.c (p * 256 + k) (by omega)
                      have f2 := atC_fr hbg.out.c (p * 256 + k)
                      have hsn : s + F (p * 256 + k) = start kw (nx ps p) L (k + 1) := by
                        rw [start, ← hst.out, hpre.out.1.2 k (Nat.le_refl _) hkl]
                      have hsl : s + F (p * 256 + k) ≤ G.length := by
                        rw [hsn, ← hlen.out.1, ← start_all kw (nx ps p) L]; exact start_mono _ _ _ _ _ (by omega)
                      obtain ⟨c, hc⟩ : ∃ c, F (p * 256 + k) = c := ⟨_, rfl⟩
                      rw [hc] at c2 hsn hsl
                      have HSN : Hid _ := hsn
                      have hcl : c ≤ G.length := by omega
                      clear hsn hc cs
                      go_wp2
                      go_quiet (fail)
                      go_wp2
                      go_roundw
                      case rel => exact ⟨k + 1, s + c, upd F (p * 256 + k) s, by go_num, by go_num, by omega, by omega, HSN, ⟨by rw [hst.out]; exact hpre.out.1.next hkl, hpre.out.2.upd k s hkl⟩, (hbg.out.on (below_drewN (Below.refl _ _) _)).count (p * 256 + k) s⟩
                      case measure => simp [intOf]; omega
                    · have hkl' : ¬ (k : Int) < 256 := by omega
                      have hlay : Hid (Lay F (nx ps p) L p 0 ∧ Rest F ps G (p + 1)) := by
                        have e : k = 256 := by omega
                        have := hpre.out; rw [e] at this; exact ⟨this.1.lay, this.2⟩
                      have hdist : Hid (Dist kw (nx ps p) L D 0) := dist_zero _ _ _ _ (by rw [hlen.out.1, hlen.out.2])
                      clear hpre hst
                      go_wp2
                      go_loopw [171] (fun vi wx => ∃ (i : Nat) (D : List Ky) (F : Nat → Nat), vi = .int .i64 i ∧ i ≤ G.length ∧ Hid (Dist kw (nx ps p) L D i) ∧ Hid (Lay F (nx ps p) L p i ∧ Rest F ps G (p + 1)) ∧ Hid (Big g1 g2 gs gc N L D ps F w wx))
                        (fun vi _ => G.length - (intOf vi).toNat)
                      case atStart => exact ⟨0, D, F, rfl, by omega, hdist, hlay, hbg⟩
                      case round =>
                        clear hdist hlay hbg
                        obtain ⟨i, D, F, rfl, hi, hdist, hlay, hbg⟩ := hrel
                        by_cases hil : i < G.length
                        · have li : (i : Int) < (G.length : Int) := by omega
                          have hLl : i < L.length := by rw [hlen.out.1]; exact hil
                          have c1 := atK_w hbg.out.duo.a i hLl
                          have c1b := atK_a hbg.out.duo.a i hLl
                          obtain ⟨x, hx⟩ : ∃ x, x = L.getD i (0, 0) := ⟨_, rfl⟩
                          rw [← hx] at c1 c1b
                          obtain ⟨x1, x2⟩ := x
                          simp only at c1 c1b
                          obtain ⟨d, hd⟩ : ∃ d, x1 / 2 ^ sh % 256 = d := ⟨_, rfl⟩
                          have d256 : d < 256 := by omega
                          have d256' : (d : Int) < 256 := by omega
                          have hdi : (x1 : Int) / 2 ^ sh % 256 = (d : Int) := by rw [← hd]; simp
                          have hdg : Hid (dg kw (nx ps p) (x1, x2) = d) := by
                            unfold Hid dg kw
                            rw [← hd, HSH.out, show (256 : Nat) ^ nx ps p = 2 ^ (8 * nx ps p) from by rw [show (256 : Nat) = 2 ^ 8 from rfl, ← Nat.pow_mul]]
                          have HX : Hid _ := hx
                          have hpl2 := hlay.out.1.place hdist.out hLl x1 x2 hx d hdg.out
                          rw [hlen.out.1] at hpl2
                          have c2 := atC_at hbg.out.c (p * 256 + d) (by omega)
                          have f2 := atC_fr hbg.out.c (p * 256 + d)
                          obtain ⟨c, hc⟩ : ∃ c, F (p * 256 + d) = c := ⟨_, rfl⟩
                          rw [hc] at c2 hpl2
                          obtain ⟨hcn, hnext⟩ := hpl2
                          have HN : Hid _ := hnext
                          have hcn' : (c : Int) < (G.length : Int) := by omega
                          have hDl : D.length = G.length := by rw [hdist.out.len, hlen.out.1]
                          have d1 := atK_w hbg.out.duo.b c (by rw [hDl]; exact hcn)
                          have d2 := atK_a hbg.out.duo.b c (by rw [hDl]; exact hcn)
                          generalize ((D.getD c (0, 0)).1 : Int) = u1 at d1
                          generalize (D.getD c (0, 0)).2 = u2 at d2
                          have f3 := atK_fr hbg.out.duo.b (c * 2)
                          have f4 := atK_fr hbg.out.duo.b (c * 2 + 1)
                          have ne1 : g1 ≠ gc := hbg.out.ac
                          have ne2 : gc ≠ g1 := fun e => ne1 e.symm
                          have ne3 : g2 ≠ gc := hbg.out.bc
                          have ne4 : gc ≠ g2 := fun e => ne3 e.symm
                          have ne5 : g1 ≠ g2 := hbg.out.duo.ne
                          have ne6 : g2 ≠ g1 := fun e => ne5 e.symm
                          have HC : Hid _ := hc
                          clear hc hx hd hnext hDl cs
                          go_wp2
                          go_region
                          go_wp2
                          go_region
                          go_wp2
                          go_roundw
                          case rel => exact ⟨i + 1, D.set c (x1, x2), upd F (p * 256 + d) (F (p * 256 + d) + 1), by go_num, by omega, HN, ⟨hlay.out.1.next hLl d (by rw [← HX.out]; exact hdg.out), hlay.out.2.upd d _ d256⟩, by rw [HC.out]; exact ((hbg.out.put c x1 x2).count (p * 256 + d) (c + 1)).on (below_drewN (Below.refl _ _) 2)⟩
                          case measure => simp [intOf]; omega
                        · have li : ¬ (i : Int) < (G.length : Int) := by omega
                          have hpass : Hid (D = pass kw (nx ps p) L) := by
                            have e : i = L.length := by have := hlen.out.1; omega
                            have := hdist.out; rw [e] at this; exact this.done
                          go_wp2
                          go_roundw
                          case rel =>
                            have hsw := hbg.out.swap
                            refine ⟨g2, g1, p + 1, D, L, F, rfl, rfl, by go_num, by omega, ?_, ⟨by rw [hdist.out.len, hlen.out.1], hlen.out.1⟩, ⟨?_, Or.inr ?_⟩, hlay.out.2, hsw⟩
                            · rcases hg.out with h | h
                              · exact Or.inr ⟨h.2, h.1⟩
                              · exact Or.inl ⟨h.2, h.1⟩
                            · rw [hpass.out]; exact sel_step HSEL.out p hpl hss.out.1
                            · exact ss_perm hss.out.1
                          case measure => simp [intOf]; omega
                · have hpl' : ¬ (p : Int) < (ps.length : Int) := by omega
                  have hfin : Hid (SS (rk false) L G) := by
                    have e : p = ps.length := by omega
                    have := hss.out.1; rw [e] at this; exact sel_last HOK.out this
                  have hperm : Hid (L.Perm G) := ss_perm hss.out.1
                  have hlG : (0 : Int) < (G.length : Int) := by omega
                  have hlG2 : 0 < G.length := by omega
                  rcases hg.out with ⟨rfl, rfl⟩ | ⟨rfl, rfl⟩
                  · clear hg
                    have hpt := neq80_same wr.drew g1
                    go_wp2
                    go_region
                    go_wp2
                    go_end0
                    exact ⟨L, D, rfl, hfin.out, hss.out.2, hbg.out.duo.on (below_drewN (Below.refl _ _) 1)⟩
                  · clear hg
                    have ne5 : g1 ≠ g2 := hbg.out.duo.ne
                    have ne6 : g2 ≠ g1 := fun e => ne5 e.symm
                    have hpt := neq80_other (w := wr.drew) hbg.out.duo.a hbg.out.duo.b ne5
                    have hcp := fun ty => copy24 wr.drew ty g2 g1 D L G.length hlen.out.2 hlen.out.1 hbg.out.duo.b hbg.out.duo.a
                    go_wp2
                    go_region
                    go_wp2
                    go_end0
                    exact ⟨L, L, rfl, hfin.out, Or.inr hperm.out, (hbg.out.duo.swap.on (below_drewN (Below.refl _ _) 1)).copy⟩
end Go.Proofs.Qxb6603421a.SD
