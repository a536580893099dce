import Derived.Test.Qxb6603449aRj
namespace Go.Proofs.Qxb6603449a.BL
open Go.RowKit Go.ChangeMaps Go.MapKept
set_option linter.unusedVariables false
set_option linter.unusedSimpArgs false

/-! ### A membership in memory -/
def LsRd (w : World) (ao : Option Addr) (ls : List St) : Prop := ls = [] ∨ ∃ g off, ao = some ⟨g, off, none⟩ ∧ g < w.heap.size ∧ (∃ cs, w.heap[g]? = some (.cells cs 79 (0, 0))) ∧ ∀ j, j < ls.length → w.cell? ⟨g, off + j * 2, none⟩ = some (.string (ls.getD j ByteArray.empty)) ∧ ∃ a, w.cell? ⟨g, off + j * 2 + 1, none⟩ = some (.int .i64 a)
theorem LsRd.at_ {w : World} {ao : Option Addr} {ls : List St} (h : LsRd w ao ls) {j : Nat} (hj : j < ls.length) : ∃ g off a, ao = some ⟨g, off, none⟩ ∧ g < w.heap.size ∧ w.cell? ⟨g, off + j * 2, none⟩ = some (.string (ls.getD j ByteArray.empty)) ∧ w.cell? ⟨g, off + j * 2 + 1, none⟩ = some (.int .i64 a) := by
  rcases h with h | ⟨g, off, e, hlt, _, hc⟩
  · rw [h] at hj; simp at hj
  · obtain ⟨h1, a, h2⟩ := hc j hj
    exact ⟨g, off, a, e, hlt, h1, h2⟩
/-- Every row of listings stays as it was. -/
def Kp (T : TypeId) (w w' : World) : Prop := ∀ (g : Nat) (cs : Array Value), w.heap[g]? = some (Obj.cells cs T (0, 0)) → w'.heap[g]? = some (Obj.cells cs T (0, 0))
theorem heap_lt {w : World} {g : Nat} {o : Obj} (h : w.heap[g]? = some o) : g < w.heap.size := by
  by_cases hx : g < w.heap.size
  · exact hx
  · rw [Array.getElem?_eq_none (by omega)] at h; cases h
theorem Kp.refl (T : TypeId) (w : World) : Kp T w w := fun _ _ h => h
theorem Kp.trans {T : TypeId} {a b c : World} (h : Kp T a b) (k : Kp T b c) : Kp T a c := fun g cs e => k g cs (h g cs e)
theorem kp_grown {T : TypeId} {w w' : World} {row : Option Nat} (hg : w.grownBy w' row) (hr : ∀ k, row = some k → ∀ cs, w.heap[k]? ≠ some (.cells cs T (0, 0))) : Kp T w w' := fun g cs e =>
  (hg.block g (heap_lt e) (fun c => hr g c.symm cs e)).trans e
theorem kp_below {T : TypeId} {w w' : World} (hb : Below w.heap.size w w') : Kp T w w' := fun g cs e => (hb.block g (heap_lt e)).trans e
theorem LsRd.kp {w w' : World} {ao : Option Addr} {ls : List St} (h : LsRd w ao ls) (hk : Kp 79 w w') : LsRd w' ao ls := by
  rcases h with h | ⟨g, off, e, hlt, ⟨cs, hcs⟩, hc⟩
  · exact Or.inl h
  · have hcs' := hk g cs hcs
    have hb : w'.heap[g]? = w.heap[g]? := by rw [hcs', hcs]
    exact Or.inr ⟨g, off, e, heap_lt hcs', ⟨cs, hcs'⟩, fun j hj => ⟨(World.cell?_of_block hb).trans (hc j hj).1, (hc j hj).2.imp fun a ha => (World.cell?_of_block hb).trans ha⟩⟩
/-- Numbers in a block of numbers. -/
def I21 (w : World) (ao : Option Addr) (Z : List Int) : Prop := Z = [] ∨ ∃ b c, ao = some ⟨b, 0, none⟩ ∧ w.heap[b]? = some (.cells c 21 (0, 0)) ∧ ∀ i, i < Z.length → c[i]? = some (.int .i32 (Z.getD i 0))
theorem I21.kp {w w' : World} {ao : Option Addr} {Z : List Int} (h : I21 w ao Z) (hk : Kp 21 w w') : I21 w' ao Z := by
  rcases h with h | ⟨b, c, e, hc, h1⟩
  · exact Or.inl h
  · exact Or.inr ⟨b, c, e, hk b c hc, h1⟩
/-- What has been reached. -/
def RdM (w : World) (Lr : List (St × Value)) (F : St → Option (List Int)) : Prop := ∀ y, (F y = none ∧ get Lr y = none) ∨ ∃ Z ao, F y = some Z ∧ get Lr y = some (.slice ao Z.length Z.length) ∧ (ao = none → Z = []) ∧ I21 w ao Z
theorem RdM.kp {w w' : World} {Lr : List (St × Value)} {F : St → Option (List Int)} (h : RdM w Lr F) (hk : Kp 21 w w') : RdM w' Lr F := fun y => by
  rcases h y with c | ⟨Z, ao, h1, h2, h3, h4⟩
  · exact Or.inl c
  · exact Or.inr ⟨Z, ao, h1, h2, h3, h4.kp hk⟩
structure Mem (w : World) (mb ib kb rb : Nat) (P : St → List St) (κ : St → Option Int) (Li Lk Lr : List (St × Value)) : Prop where
  bx : atR w mb 76 [.map (some ib), .map (some kb), .map (some rb)]
  im : atM w ib Li
  inn : ∀ x, ∃ ao cap, atv Li x = .slice ao (P x).length cap ∧ (P x).length ≤ cap ∧ (ao = none → P x = [] ∧ cap = 0) ∧ LsRd w ao (P x)
  km : atM w kb Lk
  keys : KyM Lk κ
  rm : atM w rb Lr
theorem zero34 (w : World) : (zeroValue 34).run Try.prog w = .ok (.slice none 0 0) w := by kernel_rfl
section
variable {w w' : World} {mb ib kb rb : Nat} {P : St → List St} {κ : St → Option Int} {Li Lk Lr : List (St × Value)}
theorem Mem.on (h : Mem w mb ib kb rb P κ Li Lk Lr) (hb : Below w.heap.size w w') : Mem w' mb ib kb rb P κ Li Lk Lr :=
  ⟨(hb.block _ (atR_lt h.bx)).trans h.bx, (hb.block _ (atM_lt h.im)).trans h.im, fun x => by
    obtain ⟨ao, cap, h1, h2, h3, h4⟩ := h.inn x
    exact ⟨ao, cap, h1, h2, h3, h4.kp (kp_below hb)⟩, (hb.block _ (atM_lt h.km)).trans h.km, h.keys, (hb.block _ (atM_lt h.rm)).trans h.rm⟩
theorem Mem.look (h : Mem w mb ib kb rb P κ Li Lk Lr) (x : St) : ∃ ao cap, (Instr.lookup 51 (.map (some ib)) (.string x) false).run Try.prog w = .ok (.slice ao (P x).length cap) w ∧ (P x).length ≤ cap ∧ (ao = none → P x = [] ∧ cap = 0) ∧ LsRd w ao (P x) := by
  obtain ⟨ao, cap, h1, h2, h3, h4⟩ := h.inn x
  refine ⟨ao, cap, ?_, h2, h3, h4⟩
  have := look_any 51 77 Try.underlying51 _ (zero77 _) h.im x
  rw [this]; unfold atv at h1; rw [h1]
end
/-! ### What gather makes -/
def Mz (P : St → List St) (F : St → Option (List Int)) (x : St) (Z : List Int) : Prop := (∀ z, z ∈ Z ↔ ∃ p ∈ P x, ∃ Zp, F p = some Zp ∧ z ∈ Zp) ∧ ((∀ p ∈ P x, ∀ Zp, F p = some Zp → Zp.Nodup) → Z.Nodup)
def Gz (P : St → List St) (κ : St → Option Int) (F : St → Option (List Int)) (x : St) (Z : List Int) : Prop := (∀ z, z ∈ Z ↔ (κ x = some z ∨ ∃ p ∈ P x, ∃ Zp, F p = some Zp ∧ z ∈ Zp)) ∧ ((∀ p ∈ P x, ∀ Zp, F p = some Zp → Zp.Nodup ∧ ∀ z, κ x = some z → z ∉ Zp) → Z.Nodup)
theorem Mz.no {P : St → List St} {κ : St → Option Int} {F : St → Option (List Int)} {x : St} {Z : List Int} (h : Mz P F x Z) (hk : κ x = none) : Gz P κ F x Z :=
  ⟨fun z => by rw [h.1 z, hk]; simp, fun hh => h.2 fun p hp Zp hz => (hh p hp Zp hz).1⟩
theorem Mz.yes {P : St → List St} {κ : St → Option Int} {F : St → Option (List Int)} {x : St} {Z : List Int} {z : Int} (h : Mz P F x Z) (hk : κ x = some z) : Gz P κ F x (Z ++ [z]) := by
  refine ⟨fun y => ?_, fun hh => ?_⟩
  · rw [List.mem_append, h.1 y, hk, List.mem_singleton]
    constructor
    · rintro (c | c)
      · exact Or.inr c
      · exact Or.inl (by rw [c])
    · rintro (c | c)
      · right; injection c with c; exact c.symm
      · exact Or.inl c
  · rw [List.nodup_append]
    refine ⟨h.2 fun p hp Zp hz => (hh p hp Zp hz).1, by simp, fun a ha b hb => ?_⟩
    rw [List.mem_singleton] at hb
    intro e
    rw [hb] at e
    obtain ⟨p, hp, Zp, hz, hm⟩ := (h.1 a).1 ha
    exact (hh p hp Zp hz).2 z hk (by rw [← e]; exact hm)
theorem mz_zero {P : St → List St} {F : St → Option (List Int)} {x : St} (h : P x = []) : Mz P F x [] := ⟨fun z => by rw [h]; simp, fun _ => List.nodup_nil⟩
theorem mz_one {P : St → List St} {F : St → Option (List Int)} {x p : St} {Z : List Int} (h : P x = [p]) (hF : F p = some Z) : Mz P F x Z :=
  ⟨fun z => by rw [h]; simp [hF], fun hh => hh p (by rw [h]; simp) Z hF⟩
def con (F : St → Option (List Int)) (l : List St) : List Int := l.flatMap fun p => (F p).getD []
theorem con_mem {F : St → Option (List Int)} {l : List St} {z : Int} : z ∈ con F l ↔ ∃ p ∈ l, ∃ Zp, F p = some Zp ∧ z ∈ Zp := by
  unfold con
  rw [List.mem_flatMap]
  constructor
  · rintro ⟨p, hp, hz⟩
    cases hF : F p with
    | none => rw [hF] at hz; simp at hz
    | some Z => rw [hF] at hz; exact ⟨p, hp, Z, hF, hz⟩
  · rintro ⟨p, hp, Z, hF, hz⟩
    exact ⟨p, hp, by rw [hF]; exact hz⟩
theorem con_snoc (F : St → Option (List Int)) (l : List St) (p : St) (Z : List Int) (h : F p = some Z) : con F (l ++ [p]) = con F l ++ Z := by
  unfold con; rw [List.flatMap_append]; simp [h]
theorem con_take {F : St → Option (List Int)} {l : List St} {k : Nat} (hk : k < l.length) {p : St} (hp : l.getD k ByteArray.empty = p) {Z : List Int} (h : F p = some Z) : con F (l.take (k + 1)) = con F (l.take k) ++ Z := by
  have e : l[k] = p := by rw [← hp, List.getD_eq_getElem?_getD, List.getElem?_eq_getElem hk]; rfl
  rw [List.take_succ_eq_append_getElem hk, e, con_snoc _ _ _ _ h]
/-! ### a row of numbers as a function of the place -/
def fn (Z : List Int) : SO.Fn := fun i => Z.getD i 0
theorem cel_fn (Z : List Int) : SO.cel Z.length (fn Z) = Z.map (Value.int .i32) := by
  apply List.ext_getElem?
  intro i
  by_cases hi : i < Z.length
  · rw [SO.cel_at _ _ _ hi]; simp [fn, hi]
  · rw [List.getElem?_eq_none (by rw [SO.cel_len]; omega), List.getElem?_eq_none (by simp; omega)]
theorem own_row {w : World} {base g n cap : Nat} {Z : List Int} (h : w.ownsRow base 21 1 (.slice (some ⟨g, 0, none⟩) n cap) n (Z.map (Value.int .i32))) : n = Z.length ∧ n ≤ cap ∧ cap ≤ maxLen ∧ base ≤ g ∧ ∃ V, SO.rowD w g n V (fn Z) := by
  have hl : n = Z.length := by have := h.1; simp at this; omega
  rcases h.2 with ⟨c, _⟩ | ⟨g', cap', cur, e, h1, h2, h3, h4, h5, h6⟩
  · cases c
  · simp only [Value.slice.injEq, Option.some.injEq, Addr.mk.injEq] at e
    obtain ⟨⟨rfl, _, _⟩, _, rfl⟩ := e
    refine ⟨hl, h3, h4, h1, cur.toList.drop n, ?_⟩
    have e1 : cur.toList.take n = Z.map (Value.int .i32) := by simpa using h6
    have e2 : SO.cel n (fn Z) ++ cur.toList.drop n = cur.toList := by rw [hl, cel_fn, ← e1, ← hl, List.take_append_drop]
    unfold SO.rowD
    rw [e2]
    exact h2
theorem sw_all {n : Nat} {d e : SO.Fn} (h : SO.Sw 0 n d e) (z : Int) : (∃ p, p < n ∧ e p = z) ↔ (∃ p, p < n ∧ d p = z) := by
  have one : ∀ (f : SO.Fn) (i j : Nat), i < n → j < n → ∀ z, (∃ p, p < n ∧ f p = z) → ∃ p, p < n ∧ SO.sw f i j p = z := by
    intro f i j hi hj z hz
    obtain ⟨p, hp, e1⟩ := hz
    by_cases c1 : p = i
    · exact ⟨j, hj, by rw [SO.sw_r, ← c1]; exact e1⟩
    · by_cases c2 : p = j
      · exact ⟨i, hi, by rw [SO.sw_l, ← c2]; exact e1⟩
      · exact ⟨p, hp, by rw [SO.sw_out c1 c2]; exact e1⟩
  have back : ∀ (f : SO.Fn) (i j : Nat), i < n → j < n → ∀ z, (∃ p, p < n ∧ SO.sw f i j p = z) → ∃ p, p < n ∧ f p = z := by
    intro f i j hi hj z hz
    obtain ⟨p, hp, e1⟩ := hz
    by_cases c1 : p = i
    · rw [c1, SO.sw_l] at e1; exact ⟨j, hj, e1⟩
    · by_cases c2 : p = j
      · rw [c2, SO.sw_r] at e1; exact ⟨i, hi, e1⟩
      · rw [SO.sw_out c1 c2] at e1; exact ⟨p, hp, e1⟩
  induction h with
  | refl => exact Iff.rfl
  | step i j _ h1 h2 h3 h4 ih => exact ⟨fun k => ih.1 (back _ i j h2 h4 z k), fun k => one _ i j h2 h4 z (ih.2 k)⟩
def lst (d : SO.Fn) (m : Nat) : List Int := (List.range m).map d
theorem lst_len (d : SO.Fn) (m : Nat) : (lst d m).length = m := by simp [lst]
theorem lst_at (d : SO.Fn) (m i : Nat) (h : i < m) : (lst d m).getD i 0 = d i := by simp [lst, List.getD_eq_getElem?_getD, h]
theorem lst_mem (d : SO.Fn) (m : Nat) (z : Int) : z ∈ lst d m ↔ ∃ i, i < m ∧ d i = z := by simp [lst]
theorem lst_nodup (d : SO.Fn) (m : Nat) (h : ∀ i j, i < j → j < m → d i < d j) : (lst d m).Nodup := by
  unfold lst
  rw [List.nodup_iff_pairwise_ne, List.pairwise_map]
  have : (List.range m).Pairwise (fun a b => a < b ∧ b < m) := by
    rw [List.pairwise_iff_getElem]
    intro i j hi hj hij
    simp at hi hj ⊢
    omega
  exact this.imp fun {a b} hab => fun e => by have := h a b hab.1 hab.2; omega
theorem row_i21 {w : World} {g n m : Nat} {V : List Value} {d : SO.Fn} (h : SO.rowD w g n V d) (hm : m ≤ n) : I21 w (some ⟨g, 0, none⟩) (lst d m) := by
  refine Or.inr ⟨g, _, rfl, h, fun i hi => ?_⟩
  rw [lst_len] at hi
  rw [lst_at d m i hi, List.getElem?_toArray, List.getElem?_append_left (by rw [SO.cel_len]; omega), SO.cel_at _ _ _ (by omega)]
theorem mz_sorted {P : St → List St} {F : St → Option (List Int)} {x : St} {n m : Nat} {d d' : SO.Fn} (hn : n = (con F (P x)).length) (h1 : SO.Sw 0 n (fn (con F (P x))) d) (h2 : ∀ i j, i < j → j < m → d' i < d' j) (h3 : ∀ x, (∃ i, i < m ∧ d' i = x) ↔ (∃ p, p < n ∧ d p = x)) : Mz P F x (lst d' m) := by
  refine ⟨fun z => ?_, fun _ => lst_nodup d' m h2⟩
  rw [lst_mem, h3 z, sw_all h1 z, ← con_mem, hn]
  constructor
  · rintro ⟨p, hp, e⟩
    rw [← e]; unfold fn
    rw [List.getD_eq_getElem?_getD, List.getElem?_eq_getElem hp]; simp
  · intro hz
    obtain ⟨i, hi, e⟩ := List.getElem_of_mem hz
    exact ⟨i, hi, by unfold fn; rw [List.getD_eq_getElem?_getD, List.getElem?_eq_getElem hi]; exact e⟩
theorem mz_none {P : St → List St} {F : St → Option (List Int)} {x : St} (h : con F (P x) = []) : Mz P F x [] := ⟨fun z => by rw [← con_mem, h], fun _ => List.nodup_nil⟩
end Go.Proofs.Qxb6603449a.BL
