import Derived.Test.Qxb6603449aRg
namespace Go.Proofs.Qxb6603449a.BL
open Go.RowKit Go.ChangeMaps Go.MapKept
set_option linter.unusedVariables false
set_option linter.unusedSimpArgs false

/-! ### zzMembership -/
def C2 (E : Ed) (i : Nat) : List Value := [.string (eg E i), .int .i64 (i : Nat)]
/-- The key of a name: the last that was given. -/
def ky (KN : List St) (KV : List Int) : Nat → St → Option Int
  | 0, _ => none
  | k + 1, x => if x = KN.getD k ByteArray.empty then some (KV.getD k 0) else ky KN KV k x
def KyM (L : List (St × Value)) (f : St → Option Int) : Prop := ∀ y, get L y = (f y).map (Value.int .i32)
theorem KyM.put {L : List (St × Value)} {KN : List St} {KV : List Int} {k : Nat} (h : KyM L (ky KN KV k)) : KyM (putL L (KN.getD k ByteArray.empty) (.int .i32 (KV.getD k 0))) (ky KN KV (k + 1)) := fun y => by
  rw [get_putL]
  unfold ky
  by_cases c : KN.getD k ByteArray.empty = y
  · rw [if_pos c, if_pos c.symm]; rfl
  · rw [if_neg c, if_neg (fun q : y = _ => c q.symm)]; exact h y
theorem info79 : (Try.prog.info? 79).map (fun i => (i.zero, i.size, i.bytes)) = some (some (.agg #[.string ByteArray.empty, .int .i64 0]), 2, 24) := by kernel_rfl
theorem zero77 (w : World) : (zeroValue 77).run Try.prog w = .ok (.slice none 0 0) w := by kernel_rfl
theorem step_push79 {w : World} {ops : Array Oper} {o : Oper} {a : Act} {K : Act → World → Prop} {Q : Exit → Act → World → Prop} {E : Prop} (hgd : o.guard = none) (s x : Operand)
    (ho : o.op = .call { callee := .builtin .append, args := #[s, x], argTypes := #[77, 77] }) (base n B : Nat) (v p1 p2 : Value) (xs : List Value) (hs : a.eval s = v) (hown : w.ownsRow base 79 2 v n xs) (hx : a.eval x = .slice (some ⟨B, 0, none⟩) 1 1)
    (hB : w.heap[B]? = some (.cells #[p1, p2] 79 (0, 0))) (h1 : p1.oneCell' = true) (h2 : p2.oneCell' = true) (hn : n ≤ 1048576) (hbase : base ≤ w.heap.size)
    (h : ∀ g cap w', w'.ownsRow base 79 2 (.slice (some ⟨g, 0, none⟩) (n + 1) cap) (n + 1) (xs ++ [p1, p2]) → w.grownBy w' v.ownBlock → (v.ownBlock = some g ∨ g = w.heap.size) → K (a.put o.dst (.slice (some ⟨g, 0, none⟩) (n + 1) cap)) w') :
    if Region.wanted o (yielded ops a.tmps) = true then Oper.wp Try.prog o a w K Q else E := by
  obtain ⟨i, hi, hz0, hz1, hz2⟩ := info_parts info79
  refine step_append_lies w hgd s x 77 ho base 79 i _ 2 24 Try.underlying77 hi hz0 hz1 hz2 rfl (by omega) v n xs hs hown ⟨B, 0, none⟩ 1 1 [p1, p2] hx (by simp) (World.news_of_block hB) (fun u hu => by
    simp only [List.mem_cons, List.not_mem_nil, or_false] at hu
    rcases hu with rfl | rfl <;> assumption) (by omega) (by unfold maxLen; omega) (by omega) hbase _ rfl ?_
  intro g cap w' k2 k3 k4 k5
  exact h g cap w' k2 k3 k4
theorem own_obj {w : World} {base e sz n : Nat} {v : Value} {xs : List Value} (h : w.ownsRow base e sz v n xs) {g : Nat} (hg : v.ownBlock = some g) : ∃ cur, w.heap[g]? = some (.cells cur e (0, 0)) := by
  rcases h.2 with ⟨c, _⟩ | ⟨g', cap, cur, e1, _, h2, _⟩
  · rw [c] at hg; cases hg
  · rw [e1] at hg
    injection hg with hg
    simp only at hg
    rw [← hg]; exact ⟨cur, h2⟩
/-- The membership, while it is laid out. -/
structure Zm (E : Ed) (KN : List St) (KV : List Int) (w wr : World) (L Lk : List (St × Value)) (k i : Nat) : Prop where
  inn : Gm wr w.heap.size 79 2 (C2 E) (ix E k) L
  keys : atM wr (w.heap.size + 1) Lk
  kym : KyM Lk (ky KN KV i)
  rch : atM wr (w.heap.size + 2) []
  bx : atR wr (w.heap.size + 3) 76 [.map (some w.heap.size), .map (some (w.heap.size + 1)), .map (some (w.heap.size + 2))]
  below : Below w.heap.size w wr
section
variable {E : Ed} {KN : List St} {KV : List Int} {w wr w1 w' : World} {L Lk : List (St × Value)} {k i : Nat}
theorem Zm.lt (h : Zm E KN KV w wr L Lk k i) : w.heap.size + 3 < wr.heap.size := atR_lt h.bx
theorem Zm.al (h : Zm E KN KV w wr L Lk k i) (o : Obj) : Zm E KN KV w (wr.alloc o).drew L Lk k i :=
  ⟨(h.inn.alloc o).drew, atM_alloc h.keys o, h.kym, atM_alloc h.rch o, by unfold atR; exact (Below.heap_alloc wr o _ (atR_lt h.bx)).trans h.bx, below_drew (h.below.alloc h.below.size o)⟩
theorem Zm.drew (h : Zm E KN KV w wr L Lk k i) : Zm E KN KV w wr.drew L Lk k i := ⟨h.inn.drew, h.keys, h.kym, h.rch, h.bx, below_drew h.below⟩
theorem Zm.push (h : Zm E KN KV w w1 L Lk k i) (g n cap : Nat) (w' : World) (hn : n = (ix E k (ek E k)).length + 1) (hg : w1.grownBy w' (atv L (ek E k)).ownBlock) (hown : w'.ownsRow (w.heap.size + 1) 79 2 (.slice (some ⟨g, 0, none⟩) n cap) n ((ix E k (ek E k)).flatMap (C2 E) ++ C2 E k)) (hat : (atv L (ek E k)).ownBlock = some g ∨ g = w1.heap.size) :
    ∃ w2 L', (Instr.mapUpdate 51 (.map (some w.heap.size)) (.string (ek E k)) (.slice (some ⟨g, 0, none⟩) n cap)).run Try.prog w' = .ok () w2 ∧ w'.cell? ⟨w.heap.size + 3, 0, none⟩ = some (.map (some w.heap.size)) ∧ Zm E KN KV w w2 L' Lk (k + 1) i := by
  obtain ⟨w2, L', hup, hgm, hbl, hgr⟩ := gm_fin 51 77 Try.underlying51 h.inn h.below (Nat.le_refl _) (ek E k) rfl g n cap w' hn hg hown hat
  have ho := h.inn.own (ek E k)
  have hobj : ∀ b, (atv L (ek E k)).ownBlock = some b → ∃ cur, w1.heap[b]? = some (.cells cur 79 (0, 0)) := fun b hb => own_obj ho hb
  have n1 : (atv L (ek E k)).ownBlock ≠ some (w.heap.size + 1) := fun c => by
    obtain ⟨cur, e⟩ := hobj _ c
    have := h.keys; unfold atM at this; rw [e] at this; cases this
  have n2 : (atv L (ek E k)).ownBlock ≠ some (w.heap.size + 2) := fun c => by
    obtain ⟨cur, e⟩ := hobj _ c
    have := h.rch; unfold atM at this; rw [e] at this; cases this
  have n3 : (atv L (ek E k)).ownBlock ≠ some (w.heap.size + 3) := fun c => by
    obtain ⟨cur, e⟩ := hobj _ c
    have := h.bx; unfold atR at this; rw [e] at this; injection this with this; injection this with _ this; cases this
  exact ⟨w2, L', hup, atR_at (atR_grown h.bx hg n3) 0 _ rfl, hgm, atM_grown (atM_grown h.keys hg n1) hgr (by simp), h.kym, atM_grown (atM_grown h.rch hg n2) hgr (by simp), atR_grown (atR_grown h.bx hg n3) hgr (by simp), hbl⟩
theorem Zm.key (h : Zm E KN KV w wr L Lk k i) (x : St) (z : Int) (hx : KN.getD i ByteArray.empty = x) (hz : KV.getD i 0 = z) :
    ∃ w2 Lk', (Instr.mapUpdate 43 (.map (some (w.heap.size + 1))) (.string x) (.int .i32 z)).run Try.prog wr = .ok () w2 ∧ Zm E KN KV w w2 L Lk' k (i + 1) := by
  have hgr := putM_grown wr (w.heap.size + 1) (putL Lk x (.int .i32 z))
  have hlt := h.lt
  refine ⟨_, _, upd_any 43 21 Try.underlying43 h.keys x _, ⟨?_, ?_, ?_, ?_⟩, putM_same (by omega) _, by rw [← hx, ← hz]; exact h.kym.put, atM_grown h.rch hgr (by simp), atR_grown h.bx hgr (by simp), h.below.trans (putM_below _ _ _ _ (by omega))⟩
  · exact atM_grown h.inn.m hgr (by simp)
  · exact h.inn.no
  · intro y v hv
    refine ⟨(h.inn.yes y v hv).1, (h.inn.yes y v hv).2.kept hgr (Or.inr (fun c => ?_))⟩
    obtain ⟨cur, e⟩ := own_obj (h.inn.yes y v hv).2 c
    have := h.keys; unfold atM at this; rw [e] at this; cases this
  · exact h.inn.apart
end
def ZmPost (E : Ed) (KN : List St) (KV : List Int) (w : World) (e : Ending) (w' : World) : Prop := ∃ L Lk, e = .returned (.pointer (some ⟨w.heap.size + 3, 0, none⟩)) ∧ Zm E KN KV w w' L Lk E.length KN.length
set_option maxRecDepth 100000 in
set_option maxHeartbeats 8000000 in
theorem zzm_any (ae ak av : Option Addr) (n m c1 c2 c3 : Nat) (E : Ed) (KN : List St) (KV : List Int) (w : World) (hE : E.length = n) (hK : KN.length = m) (hV : KV.length = m) (hn : n ≤ 1048576) (hm : m ≤ 1048576) (hre : EdRd w ae E) (hrk : StrRd w ak KN) (hrv : IntRd w av KV) :
    Calls Try.prog 31 #[.slice ae n c1, .slice ak m c2, .slice av m c3] w fun e w' => ZmPost E KN KV w e w' := by
  have hmm := @run_makeMap Try.prog
  have H0 : Hid (Zm E KN KV w ((((w.alloc (.map #[] 0)).alloc (.map #[] 0)).alloc (.map #[] 0)).alloc (.cells #[.map (some w.heap.size), .map (some (w.heap.size + 1)), .map (some (w.heap.size + 2))] 76)) [] [] 0 0) := by
    have s1 : (w.alloc (.map #[] 0)).heap.size = w.heap.size + 1 := by simp
    have s2 : ((w.alloc (.map #[] 0)).alloc (.map #[] 0)).heap.size = w.heap.size + 2 := by simp
    have s3 : (((w.alloc (.map #[] 0)).alloc (.map #[] 0)).alloc (.map #[] 0)).heap.size = w.heap.size + 3 := by simp
    refine ⟨((((gm_made w 79 2 (C2 E)).congr (fun x => rfl)).alloc _).alloc _).alloc _, ?_, fun y => rfl, ?_, ?_, ((((Below.refl _ _).alloc (Nat.le_refl _) _).alloc (by omega) _).alloc (by omega) _).alloc (by omega) _⟩
    · have := atM_made (w.alloc (.map #[] 0)); rw [s1] at this; exact atM_alloc (atM_alloc this _) _
    · have := atM_made ((w.alloc (.map #[] 0)).alloc (.map #[] 0)); rw [s2] at this; exact atM_alloc this _
    · have := heap_alloc_new (((w.alloc (.map #[] 0)).alloc (.map #[] 0)).alloc (.map #[] 0)) (.cells #[.map (some w.heap.size), .map (some (w.heap.size + 1)), .map (some (w.heap.size + 2))] 76); rw [s3] at this; exact this
  have HRE : Hid (EdRd w ae E) := hre
  have HRK : Hid (StrRd w ak KN) := hrk
  have HRV : Hid (IntRd w av KV) := hrv
  have HE : Hid _ := hE
  have HK : Hid _ := hK
  have HV : Hid _ := hV
  clear hre hrk hrv hE hK hV
  go_enter Try.func31, Try.ntmps31
  go_wp2
  go_loopw [8] (fun v8 wx => ∃ (k : Nat) (L Lk : List (St × Value)), v8 = .int .i64 k ∧ k ≤ n ∧ Hid (Zm E KN KV w wx L Lk k 0)) (fun v8 _ => n - (intOf v8).toNat)
  case atStart => exact ⟨0, [], [], rfl, by omega, H0⟩
  case round =>
    clear H0
    obtain ⟨k, L, Lk, rfl, hk, hz⟩ := hrel
    by_cases hkn : k < n
    · have hkn' : (k : Int) < (n : Int) := by omega
      obtain ⟨b, off, hao, hb1, hc1, hc2⟩ := HRE.out.at_ (i := k) (by rw [HE.out]; exact hkn)
      subst hao
      have c1 := (hz.out.below.cell (p := ⟨b, off + k * 2, none⟩) hb1).trans hc1
      have c2 := (hz.out.below.cell (p := ⟨b, off + k * 2 + 1, none⟩) hb1).trans hc2
      have d1 := atR_at hz.out.bx 0 _ rfl
      have hza := hz.out.al (.cells #[.string (eg E k), .int .i64 (k : Nat)] 79)
      have d2 := atR_at hza.bx 0 _ rfl
      have l1 := look_any 51 77 Try.underlying51 _ (zero77 _) hz.out.drew.inn.m (ek E k)
      have l2 := look_any 51 77 Try.underlying51 _ (zero77 _) hza.inn.m (ek E k)
      have HOWN : Hid _ := hza.inn.own (ek E k)
      have HFIN : Hid (∀ g n cap w', _ → _ → _ → _ → _) := fun g n cap w' => hza.push g n cap w'
      have hil : (ix E k (ek E k)).length ≤ 1048576 := by have := ix_len E k (ek E k); omega
      have hlt := hz.out.lt
      have HC : Hid (C2 E k = [.string (eg E k), .int .i64 (k : Nat)]) := rfl
      change (Instr.lookup 51 (.map (some w.heap.size)) (.string (ek E k)) false).run Try.prog _ = .ok (atv L (ek E k)) _ at l1 l2
      generalize ek E k = x at *
      generalize eg E k = y at *
      generalize atv L x = v at *
      obtain ⟨q, hq⟩ : ∃ q, (ix E k x).length = q := ⟨_, rfl⟩
      rw [hq] at hil
      have HQ : Hid _ := hq
      clear hq hc1 hc2 hz hza
      go_wp2
      go_region_law (refine step_push79 rfl (.tmp 37) (.tmp 45) rfl (w.heap.size + 1) q wr.heap.size v (.string y) (.int .i64 (k : Nat)) ((ix E k x).flatMap (C2 E)) (by simp [Act.eval, Act.put]) (by rw [← HQ.out]; exact HOWN.out) (by simp [Act.eval, Act.put]) (heap_alloc_new wr _) rfl rfl (by omega) (by simp; omega) ?_; intro g cap w' hown hgr hat; obtain ⟨w2, L', up, d3, hz2⟩ := HFIN.out g (q + 1) cap w' (by rw [HQ.out]) hgr (by rw [HC.out]; exact hown) hat; have HZ2 : Hid _ := hz2; clear hz2 hown hgr hat)
      all_goals
        go_wp2
        go_roundw
        case rel => exact ⟨k + 1, L', Lk, by go_num, by omega, HZ2⟩
        case measure => simp [intOf]; omega
    · have hkn' : ¬ (k : Int) < (n : Int) := by omega
      have HZ : Hid (Zm E KN KV w wr L Lk E.length 0) := by
        have e : k = E.length := by have := HE.out; omega
        have := hz.out; rw [e] at this; exact this
      clear hz
      go_wp2
      go_loopw [10] (fun v10 wx => ∃ (i : Nat) (Lk : List (St × Value)), v10 = .int .i64 i ∧ i ≤ m ∧ Hid (Zm E KN KV w wx L Lk E.length i)) (fun v10 _ => m - (intOf v10).toNat)
      case atStart => exact ⟨0, Lk, rfl, by omega, HZ⟩
      case round =>
        clear HZ
        obtain ⟨i, Lk, rfl, hi, hz⟩ := hrel
        by_cases him : i < m
        · have him' : (i : Int) < (m : Int) := by omega
          have him2 : decide ((i : Int) < (m : Int)) = true := by simp; omega
          obtain ⟨b, off, hao, hb1, hc1⟩ := HRK.out.at_ (i := i) (by rw [HK.out]; exact him)
          subst hao
          obtain ⟨b2, off2, hao, hb2, hc2⟩ := HRV.out.at_ (i := i) (by rw [HV.out]; exact him)
          subst hao
          have c1 := (hz.out.below.cell (p := ⟨b, off + i, none⟩) hb1).trans hc1
          have c2 := (hz.out.below.cell (p := ⟨b2, off2 + i, none⟩) hb2).trans hc2
          have d1 := atR_at hz.out.bx 1 _ rfl
          obtain ⟨x, hx⟩ : ∃ x, KN.getD i ByteArray.empty = x := ⟨_, rfl⟩
          obtain ⟨z, hzz⟩ : ∃ z, KV.getD i 0 = z := ⟨_, rfl⟩
          rw [hx] at c1
          rw [hzz] at c2
          obtain ⟨w2, Lk', up, hz2⟩ := hz.out.drew.key x z hx hzz
          have HZ2 : Hid _ := hz2
          clear hc1 hc2 hx hzz hz hz2
          go_wp2
          go_region
          all_goals
            go_wp2
            go_roundw
            case rel => exact ⟨i + 1, Lk', by go_num, by omega, HZ2⟩
            case measure => simp [intOf]; omega
        · have him' : ¬ (i : Int) < (m : Int) := by omega
          have him2 : decide ((i : Int) < (m : Int)) = false := by simp; omega
          have HZ2 : Hid (Zm E KN KV w wr L Lk E.length KN.length) := by
            have e : i = KN.length := by have := HK.out; omega
            have := hz.out; rw [e] at this; exact this
          clear hz
          go_wp2
          go_ret
          exact ⟨L, Lk, rfl, HZ2.out⟩
end Go.Proofs.Qxb6603449a.BL
