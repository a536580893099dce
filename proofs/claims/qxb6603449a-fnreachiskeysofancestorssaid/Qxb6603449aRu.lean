import Derived.Test.Qxb6603449aRt
namespace Go.Proofs.Qxb6603449a.BL
open Go.RowKit Go.ChangeMaps Go.MapKept
set_option linter.unusedVariables false
set_option linter.unusedSimpArgs false

/-! ### Numbers, each once -/
theorem nodup_lenI {l m : List Int} (hn : l.Nodup) (hs : ∀ x ∈ l, x ∈ m) : l.length ≤ m.length := by
  induction l generalizing m with
  | nil => simp
  | cons x l ih =>
    rw [List.nodup_cons] at hn
    have h1 := ih hn.2 (m := m.erase x) (fun y hy => (List.mem_erase_of_ne (fun e => hn.1 (by rw [← e]; exact hy))).2 (hs y (List.mem_cons_of_mem _ hy)))
    have hx := hs x (by simp)
    have h2 := List.length_erase_of_mem hx
    have h3 := List.length_pos_of_mem hx
    rw [List.length_cons]; omega
theorem ky_mem {KN : List St} {KV : List Int} {k : Nat} {x : St} {z : Int} (h : ky KN KV k x = some z) (hk : k ≤ KV.length) : z ∈ KV := by
  induction k with
  | zero => cases h
  | succ k ih =>
    unfold ky at h
    by_cases e : x = KN.getD k ByteArray.empty
    · rw [if_pos e] at h
      injection h with h
      rw [← h, List.getD_eq_getElem?_getD, List.getElem?_eq_getElem (by omega)]
      simp
    · rw [if_neg e] at h; exact ih h (by omega)
theorem par_len (E : Ed) (x : St) : (par E x).length ≤ E.length := by
  unfold par; rw [List.length_map]; exact ix_len E E.length x
theorem par_mem {E : Ed} {x y : St} (h : y ∈ par E x) : y ∈ E.map (·.2) := by
  unfold par at h
  obtain ⟨i, hi, e⟩ := List.mem_map.1 h
  unfold ix at hi
  rw [List.mem_filter, List.mem_range] at hi
  rw [← e]; unfold eg
  rw [List.getD_eq_getElem?_getD, List.getElem?_eq_getElem hi.1]
  exact List.mem_map.2 ⟨E[i], by simp, rfl⟩
theorem up_mem {E : Ed} {x y : St} (h : Up (par E) x y) : y = x ∨ y ∈ E.map (·.2) := by
  induction h with
  | refl => exact Or.inl rfl
  | step hp _ ih =>
    rcases ih with c | c
    · rw [c]; exact Or.inr (par_mem hp)
    · exact Or.inr c
theorem up_len {E : Ed} {name : St} {F : List St} (hn : F.Nodup) (hs : ∀ y ∈ F, Up (par E) name y) : F.length ≤ E.length + 1 := by
  have := nodup_len (m := name :: E.map (·.2)) hn (fun y hy => by
    rcases up_mem (hs y hy) with c | c
    · rw [c]; simp
    · exact List.mem_cons_of_mem _ c)
  simpa using this
theorem Gm.ls {w : World} {b : Nat} {E : Ed} {L : List (St × Value)} (h : Gm w b 79 2 (C2 E) (ix E E.length) L) (x : St) : ∃ ao cap, atv L x = .slice ao (par E x).length cap ∧ (par E x).length ≤ cap ∧ (ao = none → par E x = [] ∧ cap = 0) ∧ LsRd w ao (par E x) := by
  have ho := h.own x
  have hl : (par E x).length = (ix E E.length x).length := by simp [par]
  by_cases hx : ix E E.length x = []
  · rw [hx] at ho
    have hp : par E x = [] := by unfold par; rw [hx]; rfl
    rcases ho.2 with ⟨e1, _⟩ | ⟨g, cap, cur, e1, _⟩
    · exact ⟨none, 0, by rw [e1, hp]; rfl, by rw [hp]; exact Nat.le_refl _, fun _ => ⟨hp, rfl⟩, Or.inl hp⟩
    · exact ⟨some ⟨g, 0, none⟩, cap, by rw [e1, hp]; rfl, by rw [hp]; exact Nat.zero_le _, (fun c => by cases c), Or.inl hp⟩
  · obtain ⟨g, cap, e1, h1, h2, h3⟩ := own_some ho (fun c => hx (List.eq_nil_of_length_eq_zero c))
    obtain ⟨cs, hcs⟩ := own_obj ho (g := g) (by rw [e1]; rfl)
    refine ⟨some ⟨g, 0, none⟩, cap, by rw [e1, hl], by rw [hl]; exact h3, (fun c => by cases c), Or.inr ⟨g, 0, rfl, h2, ⟨cs, hcs⟩, fun j hj => ?_⟩⟩
    rw [e1] at ho
    rw [hl] at hj
    have c0 := ho.cellAt (j * 2) (by omega)
    have c1 := ho.cellAt (j * 2 + 1) (by omega)
    have f0 := flat_at (C2 E) 2 (fun _ => rfl) (ix E E.length x) j 0 hj (by omega)
    have f1 := flat_at (C2 E) 2 (fun _ => rfl) (ix E E.length x) j 1 hj (by omega)
    rw [Nat.add_zero] at f0
    rw [f0] at c0
    rw [f1] at c1
    rw [Nat.zero_add]
    refine ⟨?_, _, c1⟩
    rw [c0, par, getD_map (eg E) _ j 0 _ hj]
    rfl
theorem Zm.mem {E : Ed} {KN : List St} {KV : List Int} {w wr : World} {L Lk : List (St × Value)} {i : Nat} (h : Zm E KN KV w wr L Lk E.length i) : Mem wr (w.heap.size + 3) w.heap.size (w.heap.size + 1) (w.heap.size + 2) (par E) (ky KN KV i) L Lk [] :=
  ⟨h.bx, h.inn.m, h.inn.ls, h.keys, h.kym, h.rch⟩
/-! ### ZZReach -/
def ZrPost (P : St → List St) (κ : St → Option Int) (name : St) (w : World) (e : Ending) (w' : World) : Prop := ∃ ao Z, e = .returned (.slice ao Z.length Z.length) ∧ Full P κ name Z ∧ (ao = none → Z = []) ∧ I21 w' ao Z ∧ Below w.heap.size w w'
set_option maxRecDepth 100000 in
set_option maxHeartbeats 4000000 in
theorem zr_any (ae ak av : Option Addr) (n m c1 c2 c3 : Nat) (E : Ed) (KN : List St) (KV : List Int) (name : St) (Nd : List St) (w : World) (hE : E.length = n) (hK : KN.length = m) (hV : KV.length = m) (hn : n ≤ 99999) (hm : m ≤ 1048576) (hre : EdRd w ae E) (hrk : StrRd w ak KN) (hrv : IntRd w av KV)
    (hnd : Nd.Nodup) (hall : ∀ y, y ∈ Nd ↔ Up (par E) name y) (hac : Acy (par E) Nd) (hinj : ∀ c d z, Up (par E) name c → Up (par E) name d → ky KN KV KN.length c = some z → ky KN KV KN.length d = some z → c = d) :
    Calls Try.prog 26 #[.slice ae n c1, .slice ak m c2, .slice av m c3, .string name] w fun e w' => ZrPost (par E) (ky KN KV KN.length) name w e w' := by
  obtain ⟨rk, hrk2⟩ := hac
  have hG : Giv (par E) (ky KN KV KN.length) name rk Nd := by
    refine ⟨⟨fun c hc y hy => hrk2 c ((hall c).2 hc) y hy, hinj⟩, fun y hy => (hall y).2 hy, ?_, fun x => ?_, fun Z hZ hz => ?_⟩
    · have := up_len hnd (fun y hy => (hall y).1 hy); omega
    · have := par_len E x; omega
    · have := nodup_lenI hZ (m := KV) (fun z hz2 => by
        obtain ⟨u, hu⟩ := hz z hz2
        exact ky_mem hu (by omega))
      omega
  have HG : Hid _ := hG
  have HRE : Hid _ := hre
  have HRK : Hid _ := hrk
  have HRV : Hid _ := hrv
  have HE : Hid _ := hE
  have HK : Hid _ := hK
  have HV : Hid _ := hV
  clear hG hre hrk hrv hE hK hV hnd hall hinj hrk2
  go_enter Try.func26, Try.ntmps26
  go_wp2_with fail
  refine (zzm_any ae ak av n m c1 c2 c3 E KN KV w HE.out HK.out HV.out (by omega) hm HRE.out HRK.out HRV.out).mono ?_
  rintro e w1 ⟨L, Lk, rfl, hz⟩
  have HB1 : Hid (Below w.heap.size w w1) := hz.below
  have HMM : Hid _ := hz.mem
  have hlt := hz.lt
  clear hz
  go_wp2_with fail
  refine (reach_any (w.heap.size + 3) w.heap.size (w.heap.size + 1) (w.heap.size + 2) (par E) (ky KN KV KN.length) name rk Nd L Lk w1 HG.out HMM.out (by omega) (by omega)).mono ?_
  rintro e w2 ⟨ao, Z, rfl, hf, h0, hI, hgr⟩
  have HPO : Hid (ZrPost (par E) (ky KN KV KN.length) name w (.returned (.slice ao Z.length Z.length)) w2) := ⟨ao, Z, rfl, hf, h0, hI, below_grown HB1.out hgr HB1.out.size (fun k hk => by injection hk with hk; omega)⟩
  clear hf h0 hI hgr
  go_wp2
  go_ret
  exact HPO.out
end Go.Proofs.Qxb6603449a.BL
