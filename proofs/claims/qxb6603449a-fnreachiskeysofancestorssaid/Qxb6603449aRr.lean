import Derived.Test.Qxb6603449aRn
import Derived.Test.Qxb6603449aRo
import Derived.Deep.RegionHeld3
namespace Go.Proofs.Qxb6603449a.BL
open Go.RowKit Go.ChangeMaps Go.MapKept
set_option linter.unusedVariables false
set_option linter.unusedSimpArgs false

theorem info82 : (Try.prog.info? 82).map (fun i => (i.zero, i.size, i.bytes)) = some (some (.agg #[.string ByteArray.empty, .slice none 0 0]), 2, 40) := by kernel_rfl
theorem step_push82 {w : World} {ops : Array Oper} {o : Oper} {a : Act} {K : Act → World → Prop} {Q : Exit → Act → World → Prop} {E : Prop} (hgd : o.guard = none) (s x : Operand)
    (ho : o.op = .call { callee := .builtin .append, args := #[s, x], argTypes := #[83, 83] }) (base n B : Nat) (v p1 p2 : Value) (xs : List Value) (hs : a.eval s = v) (hx : a.eval x = .slice (some ⟨B, 0, none⟩) 1 1) (hown : w.ownsRow base 82 2 v n xs)
    (hB : w.heap[B]? = some (.cells #[p1, p2] 82 (0, 0))) (h1 : p1.oneCell' = true) (h2 : p2.oneCell' = true) (hn : n ≤ 1048576) (hbase : base ≤ w.heap.size)
    (h : ∀ g cap w', w'.ownsRow base 82 2 (.slice (some ⟨g, 0, none⟩) (n + 1) cap) (n + 1) (xs ++ [p1, p2]) → w.grownBy w' v.ownBlock → K (a.put o.dst (.slice (some ⟨g, 0, none⟩) (n + 1) cap)) w') :
    if Region.wanted o (yielded ops a.tmps) = true then Oper.wp Try.prog o a w K Q else E := by
  obtain ⟨i, hi, hz0, hz1, hz2⟩ := info_parts info82
  refine step_append_lies w hgd s x 83 ho base 82 i _ 2 40 Try.underlying83 hi hz0 hz1 hz2 rfl (by omega) v n xs hs hown ⟨B, 0, none⟩ 1 1 [p1, p2] hx (by simp) (World.news_of_block hB) (fun u hu => by
    simp only [List.mem_cons, List.not_mem_nil, or_false] at hu
    rcases hu with rfl | rfl <;> assumption) (by omega) (by unfold maxLen; omega) (by omega) hbase _ rfl ?_
  intro g cap w' k2 k3 k4 k5
  exact h g cap w' k2 k3
/-- What is given. -/
structure Giv (P : St → List St) (κ : St → Option Int) (name : St) (rk : St → Nat) (Nd : List St) : Prop where
  g : Gvn P κ name rk
  nd : ∀ y, Up P name y → y ∈ Nd
  ndl : Nd.length ≤ 1000000
  pl : ∀ x, (P x).length ≤ 1000000
  kl : ∀ Z : List Int, Z.Nodup → (∀ z ∈ Z, ∃ u, κ u = some z) → Z.length ≤ 1048576
/-- A round's head, with its number. -/
structure Rd (w wr : World) (mb ib kb rb : Nat) (P : St → List St) (κ : St → Option Int) (name : St) (Nd : List St) (Li Lk : List (St × Value)) (v : Value) (F : St → Option (List Int)) (Lr : List (St × Value)) (l : List (St × List St)) (xs : List Value) (m : Nat) : Prop where
  s : Rs w wr mb ib kb rb P κ Li Lk v F Lr l xs
  p : Pth P F name none l
  f : Fok P κ name F
  e : l = [] → F name ≠ none
  m : m = wgt P F l Nd + plen l
def Rq (w : World) (mb ib kb rb : Nat) (P : St → List St) (κ : St → Option Int) (name : St) (Nd : List St) (Li Lk : List (St × Value)) (v : Value) (wr : World) (m : Nat) : Prop := ∃ F Lr l xs, Rd w wr mb ib kb rb P κ name Nd Li Lk v F Lr l xs m
def RePost (P : St → List St) (κ : St → Option Int) (name : St) (rb : Nat) (w : World) (e : Ending) (w' : World) : Prop := ∃ ao Z, e = .returned (.slice ao Z.length Z.length) ∧ Full P κ name Z ∧ (ao = none → Z = []) ∧ I21 w' ao Z ∧ w.grownBy w' (some rb)
theorem Fok.len {P : St → List St} {κ : St → Option Int} {name : St} {F : St → Option (List Int)} (h : Fok P κ name F) (hk : ∀ Z : List Int, Z.Nodup → (∀ z ∈ Z, ∃ u, κ u = some z) → Z.length ≤ 1048576) : ∀ p Z, F p = some Z → Z.length ≤ 1048576 := fun p Z hZ => by
  obtain ⟨_, h1, h2⟩ := h p Z hZ
  exact hk Z h1 fun z hz => by
    obtain ⟨u, _, hu⟩ := (h2 z).1 hz
    exact ⟨u, hu⟩
theorem own_nil_or {w : World} {base e sz n : Nat} {v : Value} {xs : List Value} (h : w.ownsRow base e sz v n xs) : ∃ ao cap, v = .slice ao n cap := by
  rcases h.2 with ⟨e1, e2⟩ | ⟨g, cap, cur, e1, _⟩
  · exact ⟨none, 0, by rw [e1, e2]⟩
  · exact ⟨_, cap, e1⟩
section
variable {w wr w1 : World} {mb ib kb rb : Nat} {P : St → List St} {κ : St → Option Int} {name : St} {rk : St → Nat} {Nd : List St} {Li Lk Lr : List (St × Value)} {F : St → Option (List Int)} {l : List (St × List St)} {xs ys : List Value} {m : Nat} {v : Value}
theorem Rd.fin (h : Rd w wr mb ib kb rb P κ name Nd Li Lk v F Lr [] xs m) : ∃ (ao : Option Addr) (Z : List Int), (Instr.lookup 74 (.map (some rb)) (.string name) false).run Try.prog wr = .ok (.slice ao Z.length Z.length) wr ∧ RePost P κ name rb w (.returned (.slice ao Z.length Z.length)) wr := by
  rcases h.s.rd name with ⟨c, _⟩ | ⟨Z, ao, hz, hg, h0, hI⟩
  · exact absurd c (h.e rfl)
  · refine ⟨ao, Z, ?_, ao, Z, rfl, (h.f name Z hz).2, h0, hI, h.s.gr⟩
    have := look_any 74 34 Try.underlying74 _ (zero34 _) h.s.mem.rm name
    rw [this, hg]; rfl
theorem Rd.short (h : Rd w wr mb ib kb rb P κ name Nd Li Lk v F Lr l xs m) (G : Giv P κ name rk Nd) : l.length ≤ 1000000 := by
  obtain ⟨h1, h2⟩ := pth_plen G.g h.p
  have := nodup_len h1 (fun x hx => G.nd x (h2 x hx))
  rw [List.length_map] at this
  exact Nat.le_trans this G.ndl
/-- The last name has been walked: what gather needs, and what is behind it. -/
theorem Rd.pops {c : St} {g cap n cp : Nat} {ao : Option Addr} (h : Rd w wr mb ib kb rb P κ name Nd Li Lk (.slice (some ⟨g, 0, none⟩) (l.length + 1) cap) F Lr ((c, []) :: l) (ys ++ [.string c, .slice ao n cp]) m) (hcl : Cl wr l ys) (G : Giv P κ name rk Nd) (h1 : ib ≠ rb) (h2 : kb ≠ rb) {w2 : World} (hb : wr.grownBy w2 none) :
    Mem w2 mb ib kb rb P κ Li Lk Lr ∧ RdM w2 Lr F ∧ (∀ p ∈ P c, F p ≠ none) ∧ (∀ p Z, F p = some Z → Z.length ≤ 1048576) ∧
    ∀ (w3 : World) (az : Option Addr) (Z : List Int), Gz P κ F c Z → (az = none → Z = []) → I21 w3 az Z → Below w2.heap.size w2 w3 → w3.cell? ⟨mb, 2, none⟩ = some (.map (some rb)) ∧ w3.cell? ⟨g, l.length * 2, none⟩ = some (.string c) ∧ ∃ w4 m', (Instr.mapUpdate 74 (.map (some rb)) (.string c) (.slice az Z.length Z.length)).run Try.prog w3 = .ok () w4 ∧ w4.cell? ⟨mb, 2, none⟩ = some (.map (some rb)) ∧ w4.cell? ⟨g, l.length * 2, none⟩ = some (.string c) ∧
      Rq w mb ib kb rb P κ name Nd Li Lk (.slice (some ⟨g, 0, none⟩) l.length cap) w4 m' ∧ m' < wgt P F ((c, []) :: l) Nd + plen ((c, []) :: l) := by
  have hh := h.s.grow hb
  obtain ⟨hc1, hc2⟩ := pth_top h.p
  refine ⟨hh.mem, hh.rd, hc2, h.f.len G.kl, fun w3 az Z hgz h0 hI hbl => ?_⟩
  have hb3 := grown_andThen hb (grown_of_below hbl)
  have hfull := gz_full G.g h.f hc1 hc2 hgz
  obtain ⟨hp, hl⟩ := pth_pop G.g (Z := Z) h.p
  have hs3 := h.s.grow hb3
  have ho3 := hs3.own
  obtain ⟨cs, hcs⟩ := own_obj ho3 (g := g) rfl
  have ho4 := ho3.kept (putM_grown w3 rb (putL Lr c (.slice az Z.length Z.length))) (Or.inr (fun c => by
    injection c with c
    have e := hs3.mem.rm
    unfold atM at e
    rw [← c] at e
    simp only at e
    rw [hcs] at e
    cases e))
  refine ⟨atR_at hs3.mem.bx 2 _ rfl, (own_top ho3).1, _, _, upd_any 74 34 Try.underlying74 hs3.mem.rm c _, atR_at (hs3.mem.put h1 h2 _).bx 2 _ rfl, (own_top ho4).1, ⟨fput F c Z, _, l, ys, h.s.pop hcl h1 h2 hb3 h0 hI, hp, fok_put h.f hc1 hfull, fun e => ?_, rfl⟩, m_pop Nd⟩
  rw [← hl e]; unfold fput; rw [if_pos rfl]; simp
/-- A step up. -/
theorem Rd.ups {c p : St} {left : List St} {g cap cp : Nat} {ao : Option Addr} (h : Rd w wr mb ib kb rb P κ name Nd Li Lk (.slice (some ⟨g, 0, none⟩) (l.length + 1) cap) F Lr ((c, p :: left) :: l) (ys ++ [.string c, .slice ao (p :: left).length cp]) m) (hcl : Cl wr l ys) (hcp : left.length + 1 ≤ cp) (hgs : w.heap.size ≤ g) {ao' : Option Addr} (hls : LsRd wr ao' left) (hg : wr.grownBy w1 (some g)) (hw : w1.heap[g]? = (wr.setCell ⟨g, l.length * 2 + 1, none⟩ (.slice ao' left.length (cp - 1))).heap[g]?) :
    ∃ xs', Rs w w1 mb ib kb rb P κ Li Lk (.slice (some ⟨g, 0, none⟩) (l.length + 1) cap) F Lr ((c, left) :: l) xs' := ⟨_, h.s.up hcl hg hw hcp hls hgs⟩
theorem Rs.old {c p : St} {left : List St} (h : Rs w w1 mb ib kb rb P κ Li Lk v F Lr ((c, left) :: l) xs) (hp : Pth P F name none ((c, p :: left) :: l)) (hf : Fok P κ name F) (hn : F p ≠ none) :
    ∃ m', Rq w mb ib kb rb P κ name Nd Li Lk v w1 m' ∧ m' < wgt P F ((c, p :: left) :: l) Nd + plen ((c, p :: left) :: l) :=
  ⟨_, ⟨F, Lr, _, xs, h, pth_old hp hn, hf, (fun e => by cases e), rfl⟩, m_old Nd⟩
theorem Rs.new {c p : St} {left : List St} {g cap cp : Nat} {ap : Option Addr} (h : Rs w wr mb ib kb rb P κ Li Lk v F Lr ((c, left) :: l) xs) (G : Giv P κ name rk Nd) (hp : Pth P F name none ((c, p :: left) :: l)) (hf : Fok P κ name F) (hn : F p = none) (hc : (P p).length ≤ cp) (hls : LsRd wr ap (P p)) (hown : w1.ownsRow w.heap.size 82 2 (.slice (some ⟨g, 0, none⟩) (l.length + 1 + 1) cap) (l.length + 1 + 1) (xs ++ [.string p, .slice ap (P p).length cp])) (hg : wr.grownBy w1 v.ownBlock) :
    ∃ m', Rq w mb ib kb rb P κ name Nd Li Lk (.slice (some ⟨g, 0, none⟩) (l.length + 1 + 1) cap) w1 m' ∧ m' < wgt P F ((c, p :: left) :: l) Nd + plen ((c, p :: left) :: l) :=
  ⟨_, ⟨F, Lr, _, _, Rs.push (l := (c, left) :: l) h hc hls hown hg, pth_new hp hn, hf, (fun e => by cases e), rfl⟩, m_new G.g G.nd hp hn⟩
end
end Go.Proofs.Qxb6603449a.BL
