import Derived.Test.Qxb6603449aSoa
import Derived.Laws.CopyOwn
namespace Go.Proofs.Qxb6603449a.SO
open Go.RowKit
set_option linter.unusedVariables false
set_option linter.unusedSimpArgs false

/-! ### slices.Clip, slices.Compact -/
def cut0 (d : Fn) (k : Nat) : Fn := fun i => if i < k then d i else 0
theorem cel_cut (n k : Nat) (d : Fn) (V : List Value) (hk : k ≤ n) : (cel n d ++ V).take k ++ List.replicate (n - k) (Value.int .i32 0) ++ (cel n d ++ V).drop (k + (n - k)) = cel n (cut0 d k) ++ V := by
  have e1 : (cel n d ++ V).drop (k + (n - k)) = V := by
    rw [show k + (n - k) = n from by omega, List.drop_append_of_le_length (by rw [cel_len]; exact Nat.le_refl _), List.drop_eq_nil_of_le (by rw [cel_len]; exact Nat.le_refl _)]; rfl
  rw [e1, List.take_append_of_le_length (by rw [cel_len]; exact hk)]
  congr 1
  apply List.ext_getElem?
  intro i
  by_cases hi : i < n
  · rw [cel_at n (cut0 d k) i hi]
    by_cases hik : i < k
    · rw [List.getElem?_append_left (by rw [List.length_take, cel_len]; omega), List.getElem?_take_of_lt hik, cel_at n d i hi]
      simp [cut0, hik]
    · rw [List.getElem?_append_right (by rw [List.length_take, cel_len]; omega), List.length_take, cel_len, Nat.min_eq_left hk, List.getElem?_replicate, if_pos (by omega)]
      simp [cut0, hik]
  · rw [List.getElem?_eq_none (by rw [List.length_append, List.length_take, cel_len, List.length_replicate]; omega), List.getElem?_eq_none (by rw [cel_len]; omega)]
theorem zero21 (w : World) : (zeroValue 21).run Try.prog w = .ok (.int .i32 0) w := by kernel_rfl
theorem zeros (m : Nat) : (Builtin.zeroCells (Value.int .i32 0).cells m).toList = List.replicate m (.int .i32 0) := by
  simp [Builtin.zeroCells, Value.cells]
  apply List.ext_getElem
  · simp
  · intro i h1 h2
    simp [Nat.mod_one]
def clr (w : World) (g n k : Nat) (V : List Value) (d : Fn) : World := w.setRow g (cel n (cut0 d k) ++ V).toArray
theorem clr_row {w : World} {g n : Nat} {V : List Value} {d : Fn} (h : rowD w g n V d) (k : Nat) : rowD (clr w g n k V d) g n V (cut0 d k) := setRow_heap w g _ _ 21 _ h
theorem clr_grown (w : World) (g n k : Nat) (V : List Value) (d : Fn) : w.grownBy (clr w g n k V d) (some g) := ⟨rfl, rfl, rfl, by simp [clr, World.setRow], fun j hj hne => setRow_other w g j _ (fun e => hne (by rw [e]))⟩
theorem clear34 {w : World} {g n k c : Nat} {V : List Value} {d : Fn} (ty : TypeId) (h : rowD w g n V d) (hk : k < n) :
    (Builtin.clear_ #[34] ty #[.slice (some ⟨g, k, none⟩) (n - k) c]).run Try.prog w = .ok (.tuple #[]) (clr w g n k V d) := by
  have hst := run_storeCells_at Try.prog g k 21 (List.replicate (n - k) (.int .i32 0)) 0 _ w h (by simp [cel_len]; omega) (fun v hv => by rw [List.eq_of_mem_replicate hv]; rfl)
  obtain ⟨m, hm⟩ : ∃ m, n - k = m + 1 := ⟨n - k - 1, by omega⟩
  have e : (cel n d ++ V).toArray.toList.take (k + 0) ++ List.replicate (n - k) (Value.int .i32 0) ++ (cel n d ++ V).toArray.toList.drop (k + 0 + (List.replicate (n - k) (Value.int .i32 0)).length) = cel n (cut0 d k) ++ V := by
    simp only [Nat.add_zero, List.length_replicate]
    exact cel_cut n k d V (by omega)
  rw [e] at hst
  rw [hm] at hst ⊢
  simp [Builtin.clear_, run_underlying Try.underlying34, zero21, zeros, hst, clr]
theorem wpList_clear {w : World} {ops : Array Oper} {rest : List Oper} {o : Oper} {a : Act} {Q : Exit → Act → World → Prop} (hgd : o.guard = none) (x : Operand) (ho : o.op = .call { callee := .builtin .clear, args := #[x], argTypes := #[34] })
    (v : Value) (hx : a.eval x = v) (w' : World) (hrun : ∀ ty, (Builtin.clear_ #[34] ty #[v]).run Try.prog w = .ok (.tuple #[]) w') (h : wpList Try.prog ops Q rest (a.put o.dst (.tuple #[])) w') : wpList Try.prog ops Q (o :: rest) a w := by
  refine wpList_plain hgd fun K hK => ?_
  unfold Oper.wp
  simp [execOp, ho, resolve, invoke, builtin, hx, hrun, Result.andThen]
  exact hK _ _ h
/-- Where the second loop stands: k the next place to write, P the next to read. -/
structure Cm (d e : Fn) (n k P : Nat) : Prop where
  lt : k < P
  one : 1 ≤ k
  keep : ∀ p, P ≤ p + 1 → p < n → e p = d p
  str : ∀ i j, i < j → j < k → e i < e j
  last : e (k - 1) = d (P - 1)
  into : ∀ i, i < k → ∃ p, p < P ∧ d p = e i
  onto : ∀ p, p < P → ∃ i, i < k ∧ e i = d p
theorem cm_start {d : Fn} {n k : Nat} (h1 : 1 ≤ k) (hkn : k < n) (hs : ∀ i j, i < j → j < k → d i < d j) (he : d k = d (k - 1)) : Cm d d n k (k + 1) :=
  ⟨by omega, h1, fun _ _ _ => rfl, hs, by rw [show k + 1 - 1 = k from by omega, he], fun i hi => ⟨i, by omega, rfl⟩, fun p hp => by
    by_cases c : p = k
    · exact ⟨k - 1, by omega, by rw [c, he]⟩
    · exact ⟨p, by omega, rfl⟩⟩
theorem Cm.same {d e : Fn} {n k P : Nat} (h : Cm d e n k P) (hP : P < n) (he : d P = d (P - 1)) : Cm d e n k (P + 1) :=
  ⟨by have := h.lt; omega, h.one, fun p h1 h2 => h.keep p (by omega) h2, h.str, by rw [show P + 1 - 1 = P from by omega, he]; exact h.last, fun i hi => by
    obtain ⟨p, hp, e1⟩ := h.into i hi
    exact ⟨p, by omega, e1⟩, fun p hp => by
    by_cases c : p = P
    · exact ⟨k - 1, by have := h.one; omega, by rw [c, he]; exact h.last⟩
    · exact h.onto p (by omega)⟩
theorem Cm.other {d e : Fn} {n k P : Nat} (h : Cm d e n k P) (hP : P < n) (hlt : d (P - 1) < d P) : Cm d (up1 e k (d P)) n (k + 1) (P + 1) := by
  have lt := h.lt
  have one := h.one
  have u0 : ∀ i, i ≠ k → up1 e k (d P) i = e i := fun i hi => by unfold up1; rw [if_neg hi]
  have u1 : up1 e k (d P) k = d P := by unfold up1; rw [if_pos rfl]
  refine ⟨by omega, by omega, fun p h1 h2 => by rw [u0 p (by omega)]; exact h.keep p (by omega) h2, fun i j h1 h2 => ?_, ?_, fun i hi => ?_, fun p hp => ?_⟩
  · by_cases c : j = k
    · rw [c, u1, u0 i (by omega)]
      by_cases c2 : i = k - 1
      · rw [c2, h.last]; exact hlt
      · have := h.str i (k - 1) (by omega) (by omega)
        rw [h.last] at this; omega
    · rw [u0 j c, u0 i (by omega)]; exact h.str i j h1 (by omega)
  · rw [show k + 1 - 1 = k from by omega, u1, show P + 1 - 1 = P from by omega]
  · by_cases c : i = k
    · rw [c, u1]; exact ⟨P, by omega, rfl⟩
    · rw [u0 i c]
      obtain ⟨p, hp, e1⟩ := h.into i (by omega)
      exact ⟨p, by omega, e1⟩
  · by_cases c : p = P
    · exact ⟨k, by omega, by rw [u1, c]⟩
    · obtain ⟨i, hi, e1⟩ := h.onto p (by omega)
      exact ⟨i, by omega, by rw [u0 i (by omega)]; exact e1⟩
def CmPost (g n cap : Nat) (V : List Value) (d : Fn) (w : World) (e : Ending) (w' : World) : Prop := ∃ (m : Nat) (d' : Fn), e = .returned (.slice (some ⟨g, 0, none⟩) m cap) ∧ m ≤ n ∧ (∀ i j, i < j → j < m → d' i < d' j) ∧ (∀ x, (∃ i, i < m ∧ d' i = x) ↔ (∃ p, p < n ∧ d p = x)) ∧ Sr w w' g n V d'
theorem clip_any (ao : Option Addr) (n cap : Nat) (w : World) (hn : n ≤ cap) (hc : cap ≤ 9223372036854775807) (hnn : n ≤ 1099511627776) (h0 : ao = none → n = 0 ∧ cap = 0) :
    Calls Try.prog 40 #[.slice ao n cap] w fun e w' => e = .returned (.slice ao n n) ∧ w' = w := by
  cases ao with
  | none =>
    obtain ⟨rfl, rfl⟩ := h0 rfl
    go_enter Try.func40, Try.ntmps40
    go_wp2
    go_ret
    exact ⟨rfl, rfl⟩
  | some a =>
    have h1 : (n : Int) ≤ (cap : Int) := by omega
    go_enter Try.func40, Try.ntmps40
    go_wp2
    go_ret
    exact ⟨rfl, rfl⟩

set_option maxHeartbeats 8000000 in
theorem compact_any (g n cap : Nat) (V : List Value) (d : Fn) (w : World) (hcap : n ≤ cap) (hc : cap ≤ 9223372036854775807) (hnn : n ≤ 1099511627776) (hsd : Srt 0 n d) (hr : rowD w g n V d) :
    Calls Try.prog 39 #[.slice (some ⟨g, 0, none⟩) n cap] w fun e w' => CmPost g n cap V d w e w' := by
  have HD : Hid (Srt 0 n d) := hsd
  have H0 : Hid (Sr w w g n V d) := Sr.self hr
  clear hsd hr
  by_cases h2 : (n : Int) < 2
  · go_enter Try.func39, Try.ntmps39
    go_wp2
    go_ret
    exact ⟨n, d, rfl, Nat.le_refl _, fun i j h1 h2 => by omega, fun x => Iff.rfl, H0.out⟩
  · go_enter Try.func39, Try.ntmps39
    go_wp2
    go_loopw [3] (fun vk wx => ∃ k : Nat, vk = .int .i64 k ∧ 1 ≤ k ∧ k ≤ n ∧ Hid (∀ i j, i < j → j < k → d i < d j) ∧ Hid (Sr w wx g n V d)) (fun vk _ => n - (intOf vk).toNat)
    case atStart => exact ⟨1, rfl, by omega, by omega, (fun i j h1 h2 => by omega), H0⟩
    case round =>
      clear H0
      obtain ⟨k, rfl, hk1, hk2, hst, hsr⟩ := hrel
      by_cases hkn : k < n
      · have hkn' : (k : Int) < (n : Int) := by omega
        have c1 := rowD_at hsr.out.row k hkn
        have c0 := rowD_at hsr.out.row (k - 1) (by omega)
        obtain ⟨x, hx⟩ : ∃ x, d k = x := ⟨_, rfl⟩
        obtain ⟨y, hy⟩ : ∃ y, d (k - 1) = y := ⟨_, rfl⟩
        rw [hx] at c1
        rw [hy] at c0
        have HX : Hid _ := hx
        have HY : Hid _ := hy
        clear hx hy
        have q2 : ((k : Int) - 1).toNat = k - 1 := by omega
        have q3 : (0 : Int) ≤ (k : Int) - 1 := by omega
        have q4 : (1 : Int) ≤ (k : Int) := by omega
        have q5 : (k : Int) ≤ (n : Int) := by omega
        have q6 : (k : Int) - 1 < (n : Int) := by omega
        have q8 : k ≤ n := by omega
        by_cases hxy : x = y
        · have hxy' : (x == y) = true := by simp [hxy]
          have HCM : Hid (Cm d d n k (k + 1)) := cm_start hk1 hkn hst.out (by rw [HX.out, HY.out, hxy])
          have HXY : Hid _ := hxy
          have m1 : ¬ cap = k := by omega
          have m2 : k ≤ cap := by omega
          have m3 : (n : Int) - (k : Int) = ((n - k : Nat) : Int) := by omega
          clear hxy hst
          go_wp2
          go_quiet (fail)
          go_wp2
          have m4 : (k : Int) ≤ (cap : Int) := by omega
          clear c0 c1 q2 q3 q4 q6 hkn' hxy'
          go_loopw [3, 5] (fun vk v2 wx => ∃ (k1 k2 P : Nat) (e : Fn), vk = .int .i64 k1 ∧ v2 = .int .i64 k2 ∧ P = k + k2 ∧ 1 ≤ k2 ∧ P ≤ n ∧ Hid (Cm d e n k1 P) ∧ Hid (Sr w wx g n V e)) (fun _ v2 _ => n - k - (intOf v2).toNat)
          case atStart => exact ⟨k, 1, k + 1, d, rfl, rfl, rfl, by omega, by omega, HCM, hsr.out.drewN _⟩
          case round =>
            clear hsr HCM
            obtain ⟨k1, k2, P, e, rfl, rfl, hP, hk21, hPn, hcm, hsr⟩ := hrel
            have hk1P := hcm.out.lt
            have hk11 := hcm.out.one
            by_cases hPl : P < n
            · have hPl' : (k2 : Int) < ((n - k : Nat) : Int) := by omega
              have c1 := rowD_at hsr.out.row P hPl
              have c0 := rowD_at hsr.out.row (P - 1) (by omega)
              rw [hcm.out.keep P (by omega) hPl] at c1
              rw [hcm.out.keep (P - 1) (by omega) (by omega)] at c0
              obtain ⟨x1, hx⟩ : ∃ x1, d P = x1 := ⟨_, rfl⟩
              obtain ⟨y1, hy⟩ : ∃ y1, d (P - 1) = y1 := ⟨_, rfl⟩
              rw [hx, hP] at c1
              rw [hy, show P - 1 = k + (k2 - 1) from by omega] at c0
              have HX1 : Hid _ := hx
              have HY1 : Hid _ := hy
              clear hx hy
              have q2 : ((k2 : Int) - 1).toNat = k2 - 1 := by omega
              have q3 : (0 : Int) ≤ (k2 : Int) - 1 := by omega
              have q4 : (1 : Int) ≤ (k2 : Int) := by omega
              have q6 : (k2 : Int) - 1 < ((n - k : Nat) : Int) := by omega
              have q7 : k2 < n - k := by omega
              by_cases hxy : x1 = y1
              · have hxy' : (x1 != y1) = false := by simp [hxy]
                have hxy'' : (x1 == y1) = true := by simp [hxy]
                have HC : Hid (Cm d e n k1 (P + 1)) := hcm.out.same hPl (by rw [HX1.out, HY1.out, hxy])
                have HXY1 : Hid _ := hxy
                clear hxy
                go_wp2
                go_quiet (fail)
                go_wp2
                go_roundw
                case rel => exact ⟨k1, k2 + 1, P + 1, e, rfl, by go_num, by omega, by omega, by omega, HC, hsr.out.drewN _⟩
                case measure => simp [intOf]; omega
              · have hxy' : (x1 != y1) = true := by simp [hxy]
                have hxy'' : (x1 == y1) = false := by simp [hxy]
                have HC : Hid (Cm d (up1 e k1 x1) n (k1 + 1) (P + 1)) := by
                  have sd := HD.out.pair (i := P - 1) (j := P) (by omega) (by omega) hPl
                  have := hcm.out.other hPl (by rw [HX1.out, HY1.out] at *; omega)
                  rw [HX1.out] at this
                  exact this
                have HXY1 : Hid _ := hxy
                clear hxy
                have f1 := rowD_fr hsr.out.row k1
                have z1 := rowD_at hsr.out.row k1 (by omega)
                have z2 : (k1 : Int) < (n : Int) := by omega
                go_wp2
                go_quiet (fail)
                go_wp2
                go_roundw
                case rel => exact ⟨k1 + 1, k2 + 1, P + 1, up1 e k1 x1, by go_num, by go_num, by omega, by omega, by omega, HC, rowD_set hsr.out.row k1 (by omega) x1, grown_set (hsr.out.drewN _).fr _ _⟩
                case measure => simp [intOf]; omega
            · have hPl' : decide ((k2 : Int) < ((n - k : Nat) : Int)) = false := by simp; omega
              have hPe : Hid (P = n) := by show P = n; omega
              have y1 : (k1 : Int) ≤ (n : Int) := by omega
              have y2 : (k1 : Int) ≤ (cap : Int) := by omega
              have y3 : (n : Int) - (k1 : Int) = ((n - k1 : Nat) : Int) := by omega
              have y4 : ¬ cap = k1 := by omega
              have y5 : k1 ≤ n := by omega
              have y6 : k1 ≤ cap := by omega
              obtain ⟨wz, hwz⟩ : ∃ wz, wz = clr wr g n k1 V e := ⟨_, rfl⟩
              have HCL : Hid (∀ ty, (Builtin.clear_ #[34] ty #[.slice (some ⟨g, k1, none⟩) (n - k1) (cap - k1)]).run Try.prog wr = .ok (.tuple #[]) wz) := fun ty => by rw [hwz]; exact clear34 ty hsr.out.row (by omega)
              have HWZ : Hid _ := hwz
              clear hwz
              go_upto_region 14 with fail
              go_wp2_with (with_reducible refine wpList_clear (w := wr) rfl (.tmp 56) rfl (.slice (some ⟨g, k1, none⟩) (n - k1) (cap - k1)) (by simp [Act.eval, Act.put]) wz HCL.out ?_)
              go_ret
              refine ⟨k1, cut0 e k1, rfl, by omega, fun i j h1 h2 => ?_, fun x => ?_, ?_⟩
              · unfold cut0
                rw [if_pos (by omega), if_pos h2]
                exact hcm.out.str i j h1 h2
              · constructor
                · rintro ⟨i, hi, e1⟩
                  unfold cut0 at e1
                  rw [if_pos hi] at e1
                  obtain ⟨p, hp, e2⟩ := hcm.out.into i hi
                  exact ⟨p, by have := hPe.out; omega, by rw [e2]; exact e1⟩
                · rintro ⟨p, hp, e1⟩
                  obtain ⟨i, hi, e2⟩ := hcm.out.onto p (by have := hPe.out; omega)
                  exact ⟨i, hi, by unfold cut0; rw [if_pos hi, e2]; exact e1⟩
              · rw [HWZ.out]
                exact ⟨clr_row hsr.out.row k1, grown_trans hsr.out.fr (clr_grown wr g n k1 V e)⟩
        · have hxy' : (x == y) = false := by simp [hxy]
          have HS : Hid (∀ i j, i < j → j < k + 1 → d i < d j) := fun i j h1 h2 => by
            have sd := HD.out.pair (i := k - 1) (j := k) (by omega) (by omega) hkn
            rw [HX.out, HY.out] at sd
            by_cases c : j = k
            · by_cases c2 : i = k - 1
              · rw [c, c2, HX.out, HY.out]; omega
              · have := hst.out i (k - 1) (by omega) (by omega)
                rw [HY.out] at this
                rw [c, HX.out]; omega
            · exact hst.out i j h1 (by omega)
          have HXY : Hid _ := hxy
          clear hxy
          go_wp2
          go_quiet (fail)
          go_wp2
          go_roundw
          case rel => exact ⟨k + 1, by go_num, by omega, by omega, HS, hsr.out.drewN _⟩
          case measure => simp [intOf]; omega
      · have hkn' : ¬ (k : Int) < (n : Int) := by omega
        go_wp2
        go_ret
        exact ⟨n, d, rfl, Nat.le_refl _, fun i j h1 h2 => hst.out i j h1 (by omega), fun x => Iff.rfl, hsr.out⟩
end Go.Proofs.Qxb6603449a.SO
