import Derived.Test.Qxb6603449aRu
import Derived.Test.Qxb6603449aRp
import Derived.Test.Qxb6603449aRq
namespace Go.Proofs.Qxb6603449a.BL
open Go.RowKit Go.ChangeMaps Go.MapKept
set_option linter.unusedVariables false
set_option linter.unusedSimpArgs false

/-! ### keyOf, has -/
def HsM (L : List (St × Value)) (f : St → Option Int) : Prop := ∀ y, get L y = (f y).map (fun _ => Value.bool true)
theorem HsM.put {L : List (St × Value)} {KN : List St} {KV : List Int} {k : Nat} (h : HsM L (ky KN KV k)) : HsM (putL L (KN.getD k ByteArray.empty) (.bool true)) (ky KN KV (k + 1)) := fun y => by
  rw [get_putL]
  unfold ky
  by_cases c : KN.getD k ByteArray.empty = y
  · rw [if_pos c, if_pos c.symm]; rfl
  · rw [if_neg c, if_neg (fun q : y = _ => c q.symm)]; exact h y
structure Kh (w wx : World) (KN : List St) (KV : List Int) (Lk Lh : List (St × Value)) (i : Nat) : Prop where
  kat : atM wx w.heap.size Lk
  kym : KyM Lk (ky KN KV i)
  hat : atM wx (w.heap.size + 1) Lh
  hm : HsM Lh (ky KN KV i)
  below : Below w.heap.size w wx
theorem kh_start (w : World) (KN : List St) (KV : List Int) : Kh w ((w.alloc (.map #[] 0)).alloc (.map #[] 0)) KN KV [] [] 0 := by
  have s1 : (w.alloc (.map #[] 0)).heap.size = w.heap.size + 1 := by simp
  refine ⟨atM_alloc (atM_made w) _, fun y => rfl, ?_, fun y => rfl, ((Below.refl _ _).alloc (Nat.le_refl _) _).alloc (by omega) _⟩
  have := atM_made (w.alloc (.map #[] 0)); rw [s1] at this; exact this
theorem Kh.step {w wr : World} {KN : List St} {KV : List Int} {Lk Lh : List (St × Value)} {i : Nat} (h : Kh w wr KN KV Lk Lh i) (x : St) (z : Int) (hx : KN.getD i ByteArray.empty = x) (hz : KV.getD i 0 = z) :
    ∃ w2 w3 Lk' Lh', (Instr.mapUpdate 43 (.map (some w.heap.size)) (.string x) (.int .i32 z)).run Try.prog wr.drew = .ok () w2 ∧ (Instr.mapUpdate 29 (.map (some (w.heap.size + 1))) (.string x) (.bool true)).run Try.prog w2 = .ok () w3 ∧ Below w.heap.size w w2 ∧ Kh w w3 KN KV Lk' Lh' (i + 1) := by
  have hsz := atM_lt h.hat
  have hg1 := putM_grown wr.drew w.heap.size (putL Lk x (.int .i32 z))
  have hat2 : atM (putM wr.drew w.heap.size (putL Lk x (.int .i32 z))) (w.heap.size + 1) Lh := atM_grown (w := wr.drew) h.hat hg1 (by simp)
  have hb2 : Below w.heap.size w (putM wr.drew w.heap.size (putL Lk x (.int .i32 z))) := (below_drew h.below).trans (putM_below _ _ _ _ (Nat.le_refl _))
  have hg2 := putM_grown (putM wr.drew w.heap.size (putL Lk x (.int .i32 z))) (w.heap.size + 1) (putL Lh x (.bool true))
  refine ⟨_, _, putL Lk x (.int .i32 z), putL Lh x (.bool true), upd_any (w := wr.drew) 43 21 Try.underlying43 h.kat x _, upd_any 29 4 Try.underlying29 hat2 x _, hb2, ?_, ?_, putM_same (atM_lt hat2) _, ?_, hb2.trans (putM_below _ _ _ _ (by omega))⟩
  · exact atM_grown (putM_same (by have := atM_lt h.kat; exact this) _) hg2 (by simp)
  · rw [← hx, ← hz]; exact h.kym.put
  · rw [← hx]; exact h.hm.put
theorem Kh.has {w wr : World} {KN : List St} {KV : List Int} {Lk Lh : List (St × Value)} {i : Nat} (h : Kh w wr KN KV Lk Lh i) {wx : World} (hb : Below wr.heap.size wr wx) (x : St) : (Instr.lookup 29 (.map (some (w.heap.size + 1))) (.string x) false).run Try.prog wx = .ok (.bool (ky KN KV i x).isSome) wx := by
  have := look_any 29 4 Try.underlying29 _ (zero4 _) ((hb.block _ (atM_lt h.hat)).trans h.hat : atM wx _ Lh) x
  rw [this, h.hm x]; cases ky KN KV i x <;> rfl
theorem Kh.key {w wr : World} {KN : List St} {KV : List Int} {Lk Lh : List (St × Value)} {i : Nat} (h : Kh w wr KN KV Lk Lh i) {wx : World} (hb : Below wr.heap.size wr wx) (x : St) : (Instr.lookup 43 (.map (some w.heap.size)) (.string x) false).run Try.prog wx = .ok (.int .i32 ((ky KN KV i x).getD 0)) wx := by
  have := look_any 43 21 Try.underlying43 _ (SO.zero21 _) ((hb.block _ (atM_lt h.kat)).trans h.kat : atM wx _ Lk) x
  rw [this, h.kym x]; cases ky KN KV i x <;> rfl
/-! ### want -/
structure Wk (κ : St → Option Int) (Nd : List St) (k : Nat) (W : List Int) : Prop where
  nodup : W.Nodup
  mem : ∀ z, z ∈ W ↔ ∃ c ∈ Nd.take k, κ c = some z
  inj : ∀ c d z, c ∈ Nd.take k → d ∈ Nd.take k → κ c = some z → κ d = some z → c = d
theorem wk_zero (κ : St → Option Int) (Nd : List St) : Wk κ Nd 0 [] := ⟨List.nodup_nil, fun z => by simp, fun c d z h => by simp at h⟩
theorem take_getD {Nd : List St} {k : Nat} (hk : k < Nd.length) : Nd.take (k + 1) = Nd.take k ++ [Nd.getD k ByteArray.empty] := by
  rw [List.take_succ_eq_append_getElem hk, List.getD_eq_getElem?_getD, List.getElem?_eq_getElem hk]; rfl
section
variable {κ : St → Option Int} {Nd : List St} {k : Nat} {W : List Int}
theorem Wk.skip (h : Wk κ Nd k W) (hk : k < Nd.length) {x : St} (hx : Nd.getD k ByteArray.empty = x) (hn : κ x = none) : Wk κ Nd (k + 1) W := by
  have et := take_getD hk
  rw [hx] at et
  refine ⟨h.nodup, fun z => ?_, fun c d z hc hd k1 k2 => ?_⟩
  · rw [h.mem z, et]
    constructor
    · rintro ⟨c, hc, e⟩; exact ⟨c, List.mem_append.2 (Or.inl hc), e⟩
    · rintro ⟨c, hc, e⟩
      rcases List.mem_append.1 hc with q | q
      · exact ⟨c, q, e⟩
      · rw [List.mem_singleton] at q; rw [q, hn] at e; cases e
  · rw [et] at hc hd
    rcases List.mem_append.1 hc with q | q
    · rcases List.mem_append.1 hd with r | r
      · exact h.inj c d z q r k1 k2
      · rw [List.mem_singleton] at r; rw [r, hn] at k2; cases k2
    · rw [List.mem_singleton] at q; rw [q, hn] at k1; cases k1
theorem Wk.add (h : Wk κ Nd k W) (hk : k < Nd.length) {x : St} (hx : Nd.getD k ByteArray.empty = x) {z : Int} (hz : κ x = some z) (hw : z ∉ W) : Wk κ Nd (k + 1) (W ++ [z]) := by
  have et := take_getD hk
  rw [hx] at et
  refine ⟨?_, fun y => ?_, fun c d y hc hd k1 k2 => ?_⟩
  · rw [List.nodup_append]
    exact ⟨h.nodup, by simp, fun a ha b hb => by rw [List.mem_singleton] at hb; rw [hb]; exact fun e => hw (by rw [← e]; exact ha)⟩
  · rw [List.mem_append, h.mem y, et, List.mem_singleton]
    constructor
    · rintro (⟨c, hc, e⟩ | e)
      · exact ⟨c, List.mem_append.2 (Or.inl hc), e⟩
      · exact ⟨x, by simp, by rw [hz, e]⟩
    · rintro ⟨c, hc, e⟩
      rcases List.mem_append.1 hc with q | q
      · exact Or.inl ⟨c, q, e⟩
      · rw [List.mem_singleton] at q; rw [q, hz] at e; injection e with e; exact Or.inr e.symm
  · rw [et] at hc hd
    have key : ∀ a ∈ Nd.take k, κ a ≠ some z := fun a ha e => hw ((h.mem z).2 ⟨a, ha, e⟩)
    rcases List.mem_append.1 hc with q | q
    · rcases List.mem_append.1 hd with r | r
      · exact h.inj c d y q r k1 k2
      · rw [List.mem_singleton] at r
        rw [r, hz] at k2; injection k2 with k2
        rw [← k2] at k1
        exact absurd k1 (key c q)
    · rw [List.mem_singleton] at q
      rcases List.mem_append.1 hd with r | r
      · rw [q, hz] at k1; injection k1 with k1
        rw [← k1] at k2
        exact absurd k2 (key d r)
      · rw [List.mem_singleton] at r; rw [q, r]
end
/-- The answer has the keys that are wanted. -/
theorem want_same {P : St → List St} {κ : St → Option Int} {name : St} {Nd : List St} {W Z : List Int} (h : Wk κ Nd Nd.length W) (hall : ∀ y, y ∈ Nd ↔ Up P name y) (hf : Full P κ name Z) : (∀ z, z ∈ Z ↔ z ∈ W) ∧ Z.length = W.length := by
  have e : ∀ z, z ∈ Z ↔ z ∈ W := fun z => by
    rw [hf.2 z, h.mem z, List.take_length]
    constructor
    · rintro ⟨u, h1, h2⟩; exact ⟨u, (hall u).2 h1, h2⟩
    · rintro ⟨u, h1, h2⟩; exact ⟨u, (hall u).1 h1, h2⟩
  exact ⟨e, Nat.le_antisymm (nodup_lenI hf.1 fun z hz => (e z).1 hz) (nodup_lenI h.nodup fun z hz => (e z).2 hz)⟩
theorem I21.at_ {w : World} {ao : Option Addr} {Z : List Int} (h : I21 w ao Z) {i : Nat} (hi : i < Z.length) : ∃ b, ao = some ⟨b, 0, none⟩ ∧ b < w.heap.size ∧ w.cell? ⟨b, i, none⟩ = some (.int .i32 (Z.getD i 0)) := by
  rcases h with h | ⟨b, c, e, hc, h1⟩
  · rw [h] at hi; simp at hi
  · exact ⟨b, e, heap_lt hc, by rw [cell_of_row w b i c 21 (0, 0) hc]; exact h1 i hi⟩
theorem takeI {Z : List Int} {i : Nat} (hi : i < Z.length) : Z.take (i + 1) = Z.take i ++ [Z.getD i 0] := by
  rw [List.take_succ_eq_append_getElem hi, List.getD_eq_getElem?_getD, List.getElem?_eq_getElem hi]; rfl
theorem fresh_at {Z : List Int} (h : Z.Nodup) {i : Nat} (hi : i < Z.length) : Z.getD i 0 ∉ Z.take i := by
  have h2 : (Z.take (i + 1)).Nodup := h.sublist (List.take_sublist _ _)
  rw [takeI hi, List.nodup_append] at h2
  intro hm
  exact h2.2.2 _ hm _ (by simp) rfl
theorem atI_made (w : World) : atI (w.alloc (.map #[] 0)) w.heap.size [] := heap_alloc_new w _
theorem atI_on {w w' : World} {b : Nat} {L : List Int} (h : atI w b L) (hb : Below w.heap.size w w') : atI w' b L := (hb.block _ (atI_lt h)).trans h
theorem putI_below (w : World) (b N : Nat) (L : List Int) (h : N ≤ b) (hN : N ≤ w.heap.size) : Below N w (putI w b L) := below_grown (Below.refl _ _) (putI_grown w b L) hN (fun k hk => by injection hk with hk; omega)
end Go.Proofs.Qxb6603449a.BL
