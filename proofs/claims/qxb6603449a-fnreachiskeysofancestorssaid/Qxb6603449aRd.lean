import Derived.Test.Qxb6603449aRc
namespace Go.Proofs.Qxb6603449a.BL
open Go.RowKit Go.ChangeMaps Go.MapKept
set_option linter.unusedVariables false
set_option linter.unusedSimpArgs false

/-! ### reachParents -/
theorem step_push9 {w : World} {ops : Array Oper} {o : Oper} {a : Act} {K : Act → World → Prop} {Q : Exit → Act → World → Prop} {E : Prop} (hgd : o.guard = none) (s x : Operand)
    (ho : o.op = .call { callee := .builtin .append, args := #[s, x], argTypes := #[24, 24] }) (base n B : Nat) (v p : Value) (xs : List Value) (hs : a.eval s = v) (hown : w.ownsRow base 9 1 v n xs) (hx : a.eval x = .slice (some ⟨B, 0, none⟩) 1 1)
    (hB : w.heap[B]? = some (.cells #[p] 9 (0, 0))) (h1 : p.oneCell' = true) (hn : n ≤ 1048576) (hbase : base ≤ w.heap.size)
    (h : ∀ g cap w', w'.ownsRow base 9 1 (.slice (some ⟨g, 0, none⟩) (n + 1) cap) (n + 1) (xs ++ [p]) → w.grownBy w' v.ownBlock → (v.ownBlock = some g ∨ g = w.heap.size) → K (a.put o.dst (.slice (some ⟨g, 0, none⟩) (n + 1) cap)) w') :
    if Region.wanted o (yielded ops a.tmps) = true then Oper.wp Try.prog o a w K Q else E := by
  obtain ⟨i, hi, hz0, hz1, hz2⟩ := info_parts info9
  refine step_append_lies w hgd s x 24 ho base 9 i _ 1 16 Try.underlying24 hi hz0 hz1 hz2 rfl (by omega) v n xs hs hown ⟨B, 0, none⟩ 1 1 [p] hx (by simp) (World.news_of_block hB) (fun u hu => by rw [List.mem_singleton] at hu; rw [hu]; exact h1) (by omega) (by unfold maxLen; omega) (by omega) hbase _ rfl ?_
  intro g cap w' k2 k3 k4 k5
  exact h g cap w' k2 k3 k4
theorem Gm.congr {w : World} {b e sz : Nat} {C : Nat → List Value} {I J : St → List Nat} {L : List (St × Value)} (h : Gm w b e sz C I L) (hJ : ∀ x, J x = I x) : Gm w b e sz C J L := by
  have : J = I := funext hJ
  rw [this]; exact h
theorem Gm.drew {w : World} {b e sz : Nat} {C : Nat → List Value} {I : St → List Nat} {L : List (St × Value)} (h : Gm w b e sz C I L) : Gm w.drew b e sz C I L :=
  ⟨h.m, h.no, fun x v hv => ⟨(h.yes x v hv).1, (h.yes x v hv).2.drew⟩, h.apart⟩
theorem grown_drew (w : World) : w.grownBy w.drew none := ⟨rfl, rfl, rfl, Nat.le_refl _, fun _ _ _ => rfl⟩
theorem grown_alloc (w : World) (o : Obj) : w.grownBy (w.alloc o) none := World.grownBy_alloc w o none
theorem grown_mono {w w' : World} {row : Option Nat} (h : w.grownBy w' none) : w.grownBy w' row := ⟨h.os, h.tape, h.output, h.size, fun i hi _ => h.block i hi (by simp)⟩
theorem grown_andThen {a b c : World} {row : Option Nat} (h : a.grownBy b row) (k : b.grownBy c row) : a.grownBy c row := SO.grown_trans h k
theorem below_drew {N : Nat} {w wr : World} (h : Below N w wr) : Below N w wr.drew := ⟨h.os, h.tape, h.output, h.size, h.block⟩
/-- The whole step of 'm[c] = append(m[c], g)': w1 the world at the append. -/
theorem gm_fin {w w1 : World} {b e sz k N : Nat} {E : Ed} {C : Nat → List Value} {L : List (St × Value)} (t te : TypeId) (ht : Try.prog.underlying t = some (.map 9 te)) (h : Gm w1 b e sz C (ix E k) L) (hbl : Below N w w1) (hN : N ≤ b)
    (x : St) (hx : x = ek E k) (g n cap : Nat) (w' : World) (hn : n = (ix E k x).length + 1) (hg : w1.grownBy w' (atv L x).ownBlock) (hown : w'.ownsRow (b + 1) e sz (.slice (some ⟨g, 0, none⟩) n cap) n ((ix E k x).flatMap C ++ C k)) (hat : (atv L x).ownBlock = some g ∨ g = w1.heap.size) :
    ∃ w2 L', (Instr.mapUpdate t (.map (some b)) (.string x) (.slice (some ⟨g, 0, none⟩) n cap)).run Try.prog w' = .ok () w2 ∧ Gm w2 b e sz C (ix E (k + 1)) L' ∧ Below N w w2 ∧ w'.grownBy w2 (some b) := by
  subst hx
  have hsz := hbl.size
  have hlt := atM_lt h.m
  have hm' : atM w' b L := atM_grown h.m hg (fun c => by have := (h.own (ek E k)).lt b c; omega)
  refine ⟨_, _, upd_any t te ht hm' _ _, (h.push (ek E k) k g n cap hn hg hown (hat.imp id (fun c => by omega))).congr (fun x => ?_), ?_, putM_grown _ _ _⟩
  · rw [ix_succ]
    by_cases c : x = ek E k
    · rw [if_pos c, if_pos c, c]
    · rw [if_neg c, if_neg c]
  · exact (hbl.trans ⟨hg.os, hg.tape, hg.output, hg.size, fun j hj => hg.block j (by omega) (fun c => by have := (h.own (ek E k)).lt j c.symm; omega)⟩).trans (putM_below _ _ _ _ hN)
def PaPost (E : Ed) (w : World) (e : Ending) (w' : World) : Prop := ∃ pb, e = .returned (.map (some pb)) ∧ PRd w' pb (par E) ∧ Below w.heap.size w w'
set_option maxRecDepth 100000 in
set_option maxHeartbeats 4000000 in
theorem parents_any (ao : Option Addr) (n cap : Nat) (E : Ed) (w : World) (hE : E.length = n) (hn : n ≤ 1048576) (hr : EdRd w ao E) :
    Calls Try.prog 23 #[.slice ao n cap] w fun e w' => PaPost E w e w' := by
  have hmm := @run_makeMap Try.prog
  have H0 : Hid (Gm (w.alloc (.map #[] 0)) w.heap.size 9 1 (Cs E) (ix E 0) []) := (gm_made w 9 1 (Cs E)).congr (fun x => rfl)
  have HR : Hid (EdRd w ao E) := hr
  have HE : Hid _ := hE
  clear hr hE
  go_enter Try.func23, Try.ntmps23
  go_wp2
  go_loopw [4] (fun v4 wx => ∃ (k : Nat) (L : List (St × Value)), v4 = .int .i64 k ∧ k ≤ n ∧ Hid (Gm wx w.heap.size 9 1 (Cs E) (ix E k) L) ∧ Hid (Below w.heap.size w wx)) (fun v4 _ => n - (intOf v4).toNat)
  case atStart => exact ⟨0, [], rfl, by omega, H0, (Below.refl _ _).alloc (Nat.le_refl _) _⟩
  case round =>
    clear H0
    obtain ⟨k, L, rfl, hk, hgm, hbl⟩ := hrel
    by_cases hkn : k < n
    · have hkn' : (k : Int) < (n : Int) := by omega
      obtain ⟨b, off, hao, hb1, hc1, hc2⟩ := HR.out.at_ (i := k) (by rw [HE.out]; exact hkn)
      subst hao
      have c1 := (hbl.out.cell (p := ⟨b, off + k * 2, none⟩) hb1).trans hc1
      have c2 := (hbl.out.cell (p := ⟨b, off + k * 2 + 1, none⟩) hb1).trans hc2
      have hsz := hbl.out.size
      have l1 := look_any 39 24 Try.underlying39 _ (zero24 _) hgm.out.drew.m (ek E k)
      have l2 := look_any 39 24 Try.underlying39 _ (zero24 _) (hgm.out.alloc (.cells #[.string (eg E k)] 9)).drew.m (ek E k)
      have HOWN : Hid _ := (hgm.out.alloc (.cells #[.string (eg E k)] 9)).drew.own (ek E k)
      have HFIN : Hid (∀ g n cap w', _ → _ → _ → _ → _) := fun g n cap w' => gm_fin (N := w.heap.size) (w := w) 39 24 Try.underlying39 (hgm.out.alloc (.cells #[.string (eg E k)] 9)).drew (below_drew (hbl.out.alloc hsz _)) (Nat.le_refl _) (ek E k) rfl g n cap w'
      have hil : (ix E k (ek E k)).length ≤ 1048576 := by have := ix_len E k (ek E k); omega
      have HC : Hid (Cs E k = [.string (eg E k)]) := rfl
      change (Instr.lookup 39 (.map (some w.heap.size)) (.string (ek E k)) false).run Try.prog _ = .ok (atv L (ek E k)) _ at l1 l2
      generalize ek E k = x at *
      generalize eg E k = y at *
      generalize atv L x = v at *
      obtain ⟨q, hq⟩ : ∃ q, (ix E k x).length = q := ⟨_, rfl⟩
      rw [hq] at hil
      have HQ : Hid _ := hq
      clear hq hgm hc1 hc2
      go_wp2
      go_region_law (refine step_push9 rfl (.tmp 22) (.tmp 28) rfl (w.heap.size + 1) q wr.heap.size v (.string y) ((ix E k x).flatMap (Cs E)) (by simp [Act.eval, Act.put]) (by rw [← HQ.out]; exact HOWN.out) (by simp [Act.eval, Act.put]) (heap_alloc_new wr _) rfl (by omega) (by simp; omega) ?_; intro g cap w' hown hgr hat; obtain ⟨w2, L', up, hg2, hb2, _⟩ := HFIN.out g (q + 1) cap w' (by rw [HQ.out]) hgr (by rw [HC.out]; exact hown) hat; have HG2 : Hid _ := hg2; have HB2 : Hid _ := hb2; clear hg2 hb2 hown hgr hat)
      all_goals
        go_wp2
        go_roundw
        case rel => exact ⟨k + 1, L', by go_num, by omega, HG2, HB2⟩
        case measure => simp [intOf]; omega
    · have hkn' : ¬ (k : Int) < (n : Int) := by omega
      have HP : Hid (PRd wr w.heap.size (par E)) := by
        have e : k = E.length := by have := HE.out; omega
        have := hgm.out; rw [e] at this; exact this.prd
      clear hgm
      go_wp2
      go_ret
      exact ⟨w.heap.size, rfl, HP.out, hbl.out⟩
end Go.Proofs.Qxb6603449a.BL
