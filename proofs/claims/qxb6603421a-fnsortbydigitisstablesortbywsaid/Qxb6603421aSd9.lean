import Derived.Test.Qxb6603421aSd8
namespace Go.Proofs.Qxb6603421a.SD
open Go.RowKit Go.Proofs.Qxb6603421a.RI
set_option linter.unusedVariables false
set_option linter.unusedSimpArgs false

def SoPost (ga gb N : Nat) (G T : List Ky) (w : World) (e : Ending) (w' : World) : Prop := ∃ Q T', e = .returned (.tuple #[]) ∧ (Q.length = G.length ∧ T'.length = T.length) ∧ SS (rk false) Q G ∧ (G.length ≤ 32 → T' = T) ∧ (T' = T ∨ T'.Perm G) ∧ Duo ga gb N Q T' w w'
theorem ss_permr {full : Bool} {L G : List Ky} (h : SS (rk full) L G) : L.Perm G := by
  rw [List.perm_iff_count]
  intro x
  have e := congrArg (List.count x) (h.2 (rk full x))
  rw [List.count_filter (by simp), List.count_filter (by simp)] at e
  exact e
theorem sort_any (ga gb N : Nat) (G T : List Ky) (w : World) (hm : G.length ≤ 32768) (hT : 32 < G.length → T.length = G.length) (hd : Duo ga gb N G T w w) (hok : Okl G) :
    Calls Try.prog 30 #[.slice (some ⟨ga, 0, none⟩) G.length G.length, .slice (some ⟨gb, 0, none⟩) T.length T.length] w fun e w' => SoPost ga gb N G T w e w' := by
  by_cases h : 32 < G.length
  · have e := hT h
    have := big ga gb N G T w h hm e hd hok
    rw [e]
    refine this.mono ?_
    rintro e' w' ⟨Q, T', h1, h2, h3, h4⟩
    exact ⟨Q, T', h1, ⟨(ss_permr h2).length_eq, by rcases h3 with h3 | h3
                                                   · rw [h3]
                                                   · rw [h3.length_eq, e]⟩, h2, fun c => by omega, h3, h4⟩
  · refine (small ga gb N G T 0 w (by omega) hd).mono ?_
    rintro e' w' ⟨Q, h1, h2, h4⟩
    exact ⟨Q, T, h1, ⟨(ss_permr h2).length_eq, rfl⟩, h2, fun _ => rfl, Or.inl rfl, h4⟩
theorem zz_sort (ga gb N : Nat) (G T : List Ky) (w : World) (hm : G.length ≤ 32768) (hT : 32 < G.length → T.length = G.length) (hd : Duo ga gb N G T w w) (hok : Okl G) :
    Calls Try.prog 12 #[.slice (some ⟨ga, 0, none⟩) G.length G.length, .slice (some ⟨gb, 0, none⟩) T.length T.length] w fun e w' => SoPost ga gb N G T w e w' := by
  have HD : Hid _ := hd
  have HOK : Hid (Okl G) := hok
  have HT : Hid _ := hT
  clear hd hok hT
  go_enter Try.func12, Try.ntmps12
  go_wp2_with fail
  refine (sort_any ga gb N G T w hm HT.out HD.out HOK.out).mono ?_
  rintro e w' ⟨Q, T', rfl, h0, h1, h2, h3, h4⟩
  have H : Hid _ := And.intro h0 (And.intro h1 (And.intro h2 (And.intro h3 h4)))
  clear h0 h1 h2 h3 h4
  go_wp2
  go_end0
  exact ⟨Q, T', rfl, H.out⟩

theorem zzb_yes (a1 a2 : Option Addr) (n m c1 c2 : Nat) (w : World) (h : n + m ≤ 1048576) :
    Calls Try.prog 10 #[.slice a1 n c1, .slice a2 m c2] w fun e w' => e = .returned (.bool true) ∧ w = w' := by
  have t1 : ¬ (1048576 : Int) < (n : Int) := by omega
  have t2 : ¬ (1048576 : Int) < (m : Int) := by omega
  have t3 : ¬ (1048576 : Int) < (n : Int) + (m : Int) := by omega
  go_enter Try.func10, Try.ntmps10
  go_wp2
  go_ret
  exact ⟨rfl, rfl⟩
theorem zzb_no (a1 a2 : Option Addr) (n m c1 c2 : Nat) (w : World) (hn : n ≤ maxLen) (hm : m ≤ maxLen) (h : ¬ n + m ≤ 1048576) :
    Calls Try.prog 10 #[.slice a1 n c1, .slice a2 m c2] w fun e w' => e = .returned (.bool false) ∧ w = w' := by
  by_cases t1 : (1048576 : Int) < (n : Int)
  · go_enter Try.func10, Try.ntmps10
    go_wp2
    go_ret
    exact ⟨rfl, rfl⟩
  · by_cases t2 : (1048576 : Int) < (m : Int)
    · go_enter Try.func10, Try.ntmps10
      go_wp2
      go_ret
      exact ⟨rfl, rfl⟩
    · have t3 : (1048576 : Int) < (n : Int) + (m : Int) := by omega
      go_enter Try.func10, Try.ntmps10
      go_wp2
      go_ret
      exact ⟨rfl, rfl⟩

/-! ### The full order: a permutation sorts alike -/
theorem rk_inj {x y : Ky} (hx : okK x) (hy : okK y) (h : rk true x = rk true y) : x = y := by
  obtain ⟨a, b⟩ := x
  obtain ⟨c, d⟩ := y
  obtain ⟨h1, h2, h3⟩ := hx
  obtain ⟨k1, k2, k3⟩ := hy
  simp only [rk, if_true] at *
  have e1 : a = c := by omega
  have e2 : b = d := by omega
  rw [e1, e2]
theorem perm_const {l m : List Ky} (h : l.Perm m) (hc : ∀ a ∈ l, ∀ b ∈ l, a = b) : l = m := by
  cases l with
  | nil => exact (List.nil_perm.1 h).symm
  | cons x t =>
    have e1 : x :: t = List.replicate (x :: t).length x := List.eq_replicate_iff.2 ⟨rfl, fun b hb => hc b hb x List.mem_cons_self⟩
    have e2 : m = List.replicate m.length x := List.eq_replicate_iff.2 ⟨rfl, fun b hb => hc b (h.mem_iff.2 hb) x List.mem_cons_self⟩
    rw [e1, e2, ← h.length_eq]
theorem ss_of_perm {R T K : List Ky} (h : SS (rk true) R T) (hp : T.Perm K) (hok : Okl K) : SS (rk true) R K := by
  refine ⟨h.1, fun v => ?_⟩
  rw [h.2 v]
  refine perm_const (hp.filter _) fun a ha b hb => ?_
  simp only [List.mem_filter, beq_iff_eq] at ha hb
  exact rk_inj (hok a (hp.mem_iff.1 ha.1)) (hok b (hp.mem_iff.1 hb.1)) (by rw [ha.2, hb.2])
theorem okl_perm {T K : List Ky} (hp : T.Perm K) (h : Okl K) : Okl T := fun x hx => h x (hp.mem_iff.1 hx)

/-! ### The callees, at a length by name -/
theorem to_n (ao : Option Addr) (cap n : Nat) (K : List Ky) (w : World) (hn : K.length = n) (hl : n ≤ 1048576) (hr : Rd w ao K) :
    Calls Try.prog 11 #[.slice ao n cap] w fun e w' => e = .returned (.slice (some ⟨w.heap.size, 0, none⟩) n n) ∧ atK w' w.heap.size 57 K ∧ Below w.heap.size w w' := by
  subst hn; exact toCanon_any ao cap K w hl hr
theorem from_n (ao : Option Addr) (cap n : Nat) (K : List Ky) (w : World) (hn : K.length = n) (hl : n ≤ 1048576) (hr : Rd w ao K) :
    Calls Try.prog 13 #[.slice ao n cap] w fun e w' => e = .returned (.slice (some ⟨w.heap.size, 0, none⟩) n n) ∧ atK w' w.heap.size 60 K ∧ Below w.heap.size w w' := by
  subst hn; exact fromCanon_any ao cap K w hl hr
theorem ms_n (ao : Option Addr) (cap n : Nat) (K : List Ky) (full : Bool) (w : World) (hn : K.length = n) (hl : n ≤ 1048576) (hr : Rd w ao K) (hok : Okl K) :
    Calls Try.prog 15 #[.slice ao n cap, .bool full] w fun e w' => ∃ g R, e = .returned (.slice (some ⟨g, 0, none⟩) n n) ∧ atK w' g 60 R ∧ SS (rk full) R K ∧ Below w.heap.size w w' := by
  subst hn; exact msort_any ao cap K full w hl hr hok
theorem same_n (a1 a2 : Option Addr) (cap1 cap2 n m : Nat) (K M : List Ky) (r : Bool) (w : World) (hn : K.length = n) (hm : M.length = m) (hl : n ≤ 1048576) (hl2 : m ≤ 1048576) (hr : Rd w a1 K) (hr2 : Rd w a2 M) (hrr : r = decide (K = M)) :
    Calls Try.prog 14 #[.slice a1 n cap1, .slice a2 m cap2] w fun e w' => e = .returned (.bool r) ∧ Below w.heap.size w w' := by
  subst hn hm hrr
  refine (same_any a1 a2 cap1 cap2 K M w hl hl2 hr hr2).mono ?_
  rintro e w' ⟨h1, n, rfl⟩
  exact ⟨h1, below_drewN (Below.refl _ _) n⟩
theorem below_up {a b c : World} (h : Below a.heap.size a b) (k : Below b.heap.size b c) : Below a.heap.size a c := h.trans (k.mono h.size)
theorem zs_n (ga gb N n m : Nat) (G T : List Ky) (w : World) (hn : G.length = n) (hmm : T.length = m) (hm : n ≤ 32768) (hT : 32 < n → m = n) (hd : Duo ga gb N G T w w) (hok : Okl G) :
    Calls Try.prog 12 #[.slice (some ⟨ga, 0, none⟩) n n, .slice (some ⟨gb, 0, none⟩) m m] w fun e w' => SoPost ga gb N G T w e w' := by
  subst hn hmm; exact zz_sort ga gb N G T w hm hT hd hok

theorem law_no (a1 a2 : Option Addr) (n m c1 c2 : Nat) (w : World) (hn : n ≤ maxLen) (hm : m ≤ maxLen) (h : ¬ n + m ≤ 1048576) :
    Calls Try.prog 3 #[.slice a1 n c1, .slice a2 m c2] w fun e w' => e = .returned (.bool true) ∧ Below w.heap.size w w' := by
  go_enter Try.func3, Try.ntmps3
  go_wp2_with fail
  refine (zzb_no a1 a2 n m c1 c2 w hn hm h).mono ?_
  rintro e w' ⟨rfl, rfl⟩
  go_wp2
  go_ret
  exact ⟨rfl, Below.refl _ _⟩
theorem law_long (a1 a2 : Option Addr) (n m c1 c2 : Nat) (w : World) (h : n + m ≤ 1048576) (hb : 32768 < n ∨ 32768 < m) :
    Calls Try.prog 3 #[.slice a1 n c1, .slice a2 m c2] w fun e w' => e = .returned (.bool true) ∧ Below w.heap.size w w' := by
  by_cases t1 : 32768 < n
  · have t1' : decide ((32768 : Int) < (n : Int)) = true := by simp only [decide_eq_true_eq]; omega
    clear hb
    go_enter Try.func3, Try.ntmps3
    go_wp2_with fail
    refine (zzb_yes a1 a2 n m c1 c2 w h).mono ?_
    rintro e w' ⟨rfl, rfl⟩
    go_wp2
    go_ret
    exact ⟨rfl, Below.refl _ _⟩
  · have t1' : decide ((32768 : Int) < (n : Int)) = false := by simp only [decide_eq_false_iff_not]; omega
    have t2' : decide ((32768 : Int) < (m : Int)) = true := by simp only [decide_eq_true_eq]; omega
    clear hb
    go_enter Try.func3, Try.ntmps3
    go_wp2_with fail
    refine (zzb_yes a1 a2 n m c1 c2 w h).mono ?_
    rintro e w' ⟨rfl, rfl⟩
    go_wp2
    go_ret
    exact ⟨rfl, Below.refl _ _⟩
theorem law_odd (a1 a2 : Option Addr) (n m c1 c2 : Nat) (w : World) (h1 : n ≤ 32768) (h2 : m ≤ 32768) (h3 : 32 < n) (h4 : m ≠ n) :
    Calls Try.prog 3 #[.slice a1 n c1, .slice a2 m c2] w fun e w' => e = .returned (.bool true) ∧ Below w.heap.size w w' := by
  have t1' : decide ((32768 : Int) < (n : Int)) = false := by simp only [decide_eq_false_iff_not]; omega
  have t2' : decide ((32768 : Int) < (m : Int)) = false := by simp only [decide_eq_false_iff_not]; omega
  have t3' : decide ((32 : Int) < (n : Int)) = true := by simp only [decide_eq_true_eq]; omega
  have t4' : ((m : Int) != (n : Int)) = true := by simp only [bne_iff_ne]; omega
  have H4 : Hid _ := h4
  clear h4
  go_enter Try.func3, Try.ntmps3
  go_wp2_with fail
  refine (zzb_yes a1 a2 n m c1 c2 w (by omega)).mono ?_
  rintro e w' ⟨rfl, rfl⟩
  go_wp2
  go_ret
  exact ⟨rfl, Below.refl _ _⟩

set_option maxHeartbeats 2000000 in
theorem law_few (a1 a2 : Option Addr) (n m c1 c2 : Nat) (K M : List Ky) (w : World) (hK : K.length = n) (hM : M.length = m) (h1 : n ≤ 32768) (h2 : m ≤ 32768) (h3 : n ≤ 32) (hr1 : Rd w a1 K) (hr2 : Rd w a2 M) (ok1 : Okl K) (ok2 : Okl M) :
    Calls Try.prog 3 #[.slice a1 n c1, .slice a2 m c2] w fun e w' => e = .returned (.bool true) ∧ Below w.heap.size w w' := by
  have t1' : decide ((32768 : Int) < (n : Int)) = false := by simp only [decide_eq_false_iff_not]; omega
  have t2' : decide ((32768 : Int) < (m : Int)) = false := by simp only [decide_eq_false_iff_not]; omega
  have t3' : decide ((32 : Int) < (n : Int)) = false := by simp only [decide_eq_false_iff_not]; omega
  have t5' : decide ((n : Int) ≤ 32) = true := by simp only [decide_eq_true_eq]; omega
  have HMN : Hid (32 < n → m = n) := fun c => by omega
  have HK : Hid _ := hK
  have HM : Hid _ := hM
  have HR1 : Hid (Rd w a1 K) := hr1
  have HR2 : Hid (Rd w a2 M) := hr2
  have OK1 : Hid (Okl K) := ok1
  have OK2 : Hid (Okl M) := ok2
  clear hK hM hr1 hr2 ok1 ok2
  go_enter Try.func3, Try.ntmps3
  go_wp2_with fail
  refine (zzb_yes a1 a2 n m c1 c2 w (by omega)).mono ?_
  rintro e w' ⟨rfl, rfl⟩
  go_wp2_with fail
  refine (to_n a1 c1 n K w HK.out (by omega) HR1.out).mono ?_
  rintro e w1 ⟨rfl, ha1, hb1⟩
  have HA1 : Hid _ := ha1
  have HB1 : Hid _ := hb1
  clear ha1 hb1
  go_wp2_with fail
  refine (to_n a2 c2 m M w1 HM.out (by omega) (HR2.out.on HB1.out)).mono ?_
  rintro e w2 ⟨rfl, ha2, hb2⟩
  have HB2 : Hid (Below w.heap.size w w2) := below_up HB1.out hb2
  have HD : Hid (Duo w.heap.size w1.heap.size w.heap.size K M w2 w2) := ⟨(hb2.block _ (atK_lt HA1.out)).trans HA1.out, ha2, by have := atK_lt HA1.out; omega, Nat.le_refl _, HB1.out.size, Below.refl _ _⟩
  clear ha2 hb2
  go_wp2_with fail
  refine (zs_n _ _ _ n m K M w2 HK.out HM.out h1 HMN.out HD.out OK1.out).mono ?_
  rintro e w3 ⟨Q, T', rfl, hlens, hss, hT32, hT, hd3⟩
  have HQL : Hid (Q.length = n) := hlens.1.trans HK.out
  have HTL : Hid (T'.length = m) := hlens.2.trans HM.out
  have HSS : Hid (SS (rk false) Q K) := hss
  have HT32 : Hid (n ≤ 32 → T' = M) := fun c => hT32 (by rw [HK.out]; exact c)
  have HT : Hid (T' = M ∨ T'.Perm K) := hT
  have HB3 : Hid (Below w.heap.size w w3) := HB2.out.trans hd3.below
  have HD3 : Hid _ := hd3
  clear hlens hss hT32 hT hd3 HB2 HD
  go_wp2_with fail
  refine (from_n _ n n Q w3 HQL.out (by omega) (Rd.of_at HD3.out.a)).mono ?_
  rintro e w4 ⟨rfl, ha4, hb4⟩
  have HA4 : Hid _ := ha4
  have HB4 : Hid _ := hb4
  clear ha4 hb4
  go_wp2_with fail
  refine (from_n _ m m T' w4 HTL.out (by omega) ((Rd.of_at HD3.out.b).on HB4.out)).mono ?_
  rintro e w5 ⟨rfl, ha5, hb5⟩
  have HB5 : Hid (Below w.heap.size w w5) := HB3.out.trans ((below_up HB4.out hb5).mono HB3.out.size)
  have HG5 : Hid (Rd w5 (some ⟨w3.heap.size, 0, none⟩) Q) := (Rd.of_at HA4.out).on hb5
  have HT5 : Hid (Rd w5 (some ⟨w4.heap.size, 0, none⟩) T') := Rd.of_at ha5
  clear ha5 hb5
  go_wp2_with fail
  refine (ms_n a1 c1 n K false w5 HK.out (by omega) (HR1.out.on HB5.out) OK1.out).mono ?_
  rintro e w6 ⟨g6, R, rfl, ha6, hs6, hb6⟩
  have HB6 : Hid (Below w.heap.size w w6) := HB5.out.trans (hb6.mono HB5.out.size)
  have HA6 : Hid _ := ha6
  have HRQ : Hid (true = decide (Q = R)) := by unfold Hid; rw [ss_uniq _ HSS.out hs6]; simp
  have HRL : Hid (R.length = n) := (ss_permr hs6).length_eq.trans HK.out
  have HG6 : Hid (Rd w6 (some ⟨w3.heap.size, 0, none⟩) Q) := HG5.out.on hb6
  have HT6 : Hid (Rd w6 (some ⟨w4.heap.size, 0, none⟩) T') := HT5.out.on hb6
  clear ha6 hs6 hb6 HG5 HT5
  go_wp2_with fail
  refine (same_n _ _ n n n n Q R true w6 HQL.out HRL.out (by omega) (by omega) HG6.out (Rd.of_at HA6.out) HRQ.out).mono ?_
  rintro e w7 ⟨rfl, hb7⟩
  have HB7 : Hid (Below w.heap.size w w7) := HB6.out.trans (hb7.mono HB6.out.size)
  have HT7 : Hid (Rd w7 (some ⟨w4.heap.size, 0, none⟩) T') := HT6.out.on hb7
  clear hb7
  go_wp2_with fail
  refine (same_n _ a2 m c2 m m T' M true w7 HTL.out HM.out (by omega) (by omega) HT7.out (HR2.out.on HB7.out) (by rw [HT32.out h3]; simp)).mono ?_
  rintro e w8 ⟨rfl, hb8⟩
  have HB8 : Hid (Below w.heap.size w w8) := HB7.out.trans (hb8.mono HB7.out.size)
  clear hb8
  go_wp2
  go_ret
  exact ⟨rfl, HB8.out⟩

set_option maxHeartbeats 2000000 in
theorem law_many (a1 a2 : Option Addr) (n m c1 c2 : Nat) (K M : List Ky) (w : World) (hK : K.length = n) (hM : M.length = m) (h1 : n ≤ 32768) (h2 : m ≤ 32768) (h3 : 32 < n) (h4 : m = n) (hr1 : Rd w a1 K) (hr2 : Rd w a2 M) (ok1 : Okl K) (ok2 : Okl M) :
    Calls Try.prog 3 #[.slice a1 n c1, .slice a2 m c2] w fun e w' => e = .returned (.bool true) ∧ Below w.heap.size w w' := by
  have t1' : decide ((32768 : Int) < (n : Int)) = false := by simp only [decide_eq_false_iff_not]; omega
  have t2' : decide ((32768 : Int) < (m : Int)) = false := by simp only [decide_eq_false_iff_not]; omega
  have t3' : decide ((32 : Int) < (n : Int)) = true := by simp only [decide_eq_true_eq]; omega
  have t4' : ((m : Int) != (n : Int)) = false := by simp only [bne_eq_false_iff_eq]; omega
  have t5' : decide ((n : Int) ≤ 32) = false := by simp only [decide_eq_false_iff_not]; omega
  have HMN : Hid (32 < n → m = n) := fun c => h4
  clear h4
  have HK : Hid _ := hK
  have HM : Hid _ := hM
  have HR1 : Hid (Rd w a1 K) := hr1
  have HR2 : Hid (Rd w a2 M) := hr2
  have OK1 : Hid (Okl K) := ok1
  have OK2 : Hid (Okl M) := ok2
  clear hK hM hr1 hr2 ok1 ok2
  go_enter Try.func3, Try.ntmps3
  go_wp2_with fail
  refine (zzb_yes a1 a2 n m c1 c2 w (by omega)).mono ?_
  rintro e w' ⟨rfl, rfl⟩
  go_wp2_with fail
  refine (to_n a1 c1 n K w HK.out (by omega) HR1.out).mono ?_
  rintro e w1 ⟨rfl, ha1, hb1⟩
  have HA1 : Hid _ := ha1
  have HB1 : Hid _ := hb1
  clear ha1 hb1
  go_wp2_with fail
  refine (to_n a2 c2 m M w1 HM.out (by omega) (HR2.out.on HB1.out)).mono ?_
  rintro e w2 ⟨rfl, ha2, hb2⟩
  have HB2 : Hid (Below w.heap.size w w2) := below_up HB1.out hb2
  have HD : Hid (Duo w.heap.size w1.heap.size w.heap.size K M w2 w2) := ⟨(hb2.block _ (atK_lt HA1.out)).trans HA1.out, ha2, by have := atK_lt HA1.out; omega, Nat.le_refl _, HB1.out.size, Below.refl _ _⟩
  clear ha2 hb2
  go_wp2_with fail
  refine (zs_n _ _ _ n m K M w2 HK.out HM.out h1 HMN.out HD.out OK1.out).mono ?_
  rintro e w3 ⟨Q, T', rfl, hlens, hss, hT32, hT, hd3⟩
  have HQL : Hid (Q.length = n) := hlens.1.trans HK.out
  have HTL : Hid (T'.length = m) := hlens.2.trans HM.out
  have HSS : Hid (SS (rk false) Q K) := hss
  have HT32 : Hid (n ≤ 32 → T' = M) := fun c => hT32 (by rw [HK.out]; exact c)
  have HT : Hid (T' = M ∨ T'.Perm K) := hT
  have HB3 : Hid (Below w.heap.size w w3) := HB2.out.trans hd3.below
  have HD3 : Hid _ := hd3
  clear hlens hss hT32 hT hd3 HB2 HD
  go_wp2_with fail
  refine (from_n _ n n Q w3 HQL.out (by omega) (Rd.of_at HD3.out.a)).mono ?_
  rintro e w4 ⟨rfl, ha4, hb4⟩
  have HA4 : Hid _ := ha4
  have HB4 : Hid _ := hb4
  clear ha4 hb4
  go_wp2_with fail
  refine (from_n _ m m T' w4 HTL.out (by omega) ((Rd.of_at HD3.out.b).on HB4.out)).mono ?_
  rintro e w5 ⟨rfl, ha5, hb5⟩
  have HB5 : Hid (Below w.heap.size w w5) := HB3.out.trans ((below_up HB4.out hb5).mono HB3.out.size)
  have HG5 : Hid (Rd w5 (some ⟨w3.heap.size, 0, none⟩) Q) := (Rd.of_at HA4.out).on hb5
  have HT5 : Hid (Rd w5 (some ⟨w4.heap.size, 0, none⟩) T') := Rd.of_at ha5
  clear ha5 hb5
  go_wp2_with fail
  refine (ms_n a1 c1 n K false w5 HK.out (by omega) (HR1.out.on HB5.out) OK1.out).mono ?_
  rintro e w6 ⟨g6, R, rfl, ha6, hs6, hb6⟩
  have HB6 : Hid (Below w.heap.size w w6) := HB5.out.trans (hb6.mono HB5.out.size)
  have HA6 : Hid _ := ha6
  have HRQ : Hid (true = decide (Q = R)) := by unfold Hid; rw [ss_uniq _ HSS.out hs6]; simp
  have HRL : Hid (R.length = n) := (ss_permr hs6).length_eq.trans HK.out
  have HG6 : Hid (Rd w6 (some ⟨w3.heap.size, 0, none⟩) Q) := HG5.out.on hb6
  have HT6 : Hid (Rd w6 (some ⟨w4.heap.size, 0, none⟩) T') := HT5.out.on hb6
  clear ha6 hs6 hb6 HG5 HT5
  go_wp2_with fail
  refine (same_n _ _ n n n n Q R true w6 HQL.out HRL.out (by omega) (by omega) HG6.out (Rd.of_at HA6.out) HRQ.out).mono ?_
  rintro e w7 ⟨rfl, hb7⟩
  have HB7 : Hid (Below w.heap.size w w7) := HB6.out.trans (hb7.mono HB6.out.size)
  have HT7 : Hid (Rd w7 (some ⟨w4.heap.size, 0, none⟩) T') := HT6.out.on hb7
  clear hb7
  go_wp2_with fail
  obtain ⟨r, hr⟩ : ∃ r, r = decide (T' = M) := ⟨_, rfl⟩
  refine (same_n _ a2 m c2 m m T' M r w7 HTL.out HM.out (by omega) (by omega) HT7.out (HR2.out.on HB7.out) hr).mono ?_
  rintro e w8 ⟨rfl, hb8⟩
  have HB8 : Hid (Below w.heap.size w w8) := HB7.out.trans (hb8.mono HB7.out.size)
  have HT8 : Hid (Rd w8 (some ⟨w4.heap.size, 0, none⟩) T') := HT7.out.on hb8
  have HRR : Hid _ := hr
  clear hb8 hr
  cases r
  · have HP : Hid (T'.Perm K) := by
      rcases HT.out with h | h
      · exact absurd HRR.out (by rw [h]; simp)
      · exact h
    go_wp2_with fail
    refine (ms_n _ m m T' true w8 HTL.out (by omega) HT8.out (okl_perm HP.out OK1.out)).mono ?_
    rintro e w9 ⟨g9, R9, rfl, ha9, hs9, hb9⟩
    have HB9 : Hid (Below w.heap.size w w9) := HB8.out.trans (hb9.mono HB8.out.size)
    have HA9 : Hid _ := ha9
    have HL9 : Hid (R9.length = m) := (ss_permr hs9).length_eq.trans HTL.out
    have HS9 : Hid (SS (rk true) R9 K) := ss_of_perm hs9 HP.out OK1.out
    clear ha9 hs9 hb9
    go_wp2_with fail
    refine (ms_n a1 c1 n K true w9 HK.out (by omega) (HR1.out.on HB9.out) OK1.out).mono ?_
    rintro e w10 ⟨g10, R10, rfl, ha10, hs10, hb10⟩
    have HB10 : Hid (Below w.heap.size w w10) := HB9.out.trans (hb10.mono HB9.out.size)
    have HA10 : Hid _ := ha10
    have HRD : Hid (Rd w10 (some ⟨g9, 0, none⟩) R9) := (Rd.of_at HA9.out).on hb10
    have HL10 : Hid (R10.length = n) := (ss_permr hs10).length_eq.trans HK.out
    have HE : Hid (true = decide (R9 = R10)) := by unfold Hid; rw [ss_uniq _ HS9.out hs10]; simp
    clear ha10 hs10 hb10
    go_wp2_with fail
    refine (same_n _ _ m n m n R9 R10 true w10 HL9.out HL10.out (by omega) (by omega) HRD.out (Rd.of_at HA10.out) HE.out).mono ?_
    rintro e w11 ⟨rfl, hb11⟩
    have HB11 : Hid (Below w.heap.size w w11) := HB10.out.trans (hb11.mono HB10.out.size)
    clear hb11
    go_wp2
    go_ret
    exact ⟨rfl, HB11.out⟩
  · go_wp2
    go_ret
    exact ⟨rfl, HB8.out⟩

theorem law (a1 a2 : Option Addr) (n m c1 c2 : Nat) (K M : List Ky) (w : World) (hK : K.length = n) (hM : M.length = m) (hn : n ≤ maxLen) (hm : m ≤ maxLen) (hr1 : Rd w a1 K) (hr2 : Rd w a2 M) (ok1 : Okl K) (ok2 : Okl M) :
    Calls Try.prog 3 #[.slice a1 n c1, .slice a2 m c2] w fun e w' => e = .returned (.bool true) ∧ Below w.heap.size w w' := by
  by_cases h0 : n + m ≤ 1048576
  · by_cases h1 : 32768 < n ∨ 32768 < m
    · exact law_long a1 a2 n m c1 c2 w h0 h1
    · by_cases h3 : 32 < n
      · by_cases h4 : m = n
        · exact law_many a1 a2 n m c1 c2 K M w hK hM (by omega) (by omega) h3 h4 hr1 hr2 ok1 ok2
        · exact law_odd a1 a2 n m c1 c2 w (by omega) (by omega) h3 h4
      · exact law_few a1 a2 n m c1 c2 K M w hK hM (by omega) (by omega) (by omega) hr1 hr2 ok1 ok2
  · exact law_no a1 a2 n m c1 c2 w hn hm h0
end Go.Proofs.Qxb6603421a.SD
