import Derived.Test.Qxb6603421aProg
import Derived.WalkKit
import Derived.WalkSpells
import Derived.WalkLawsBesides
import Derived.Deep.QuietTactic
import Derived.BigQuiet
import Derived.Lib.Strings
namespace Go.Proofs.Qxb6603421a.RI
open Go.RowKit
set_option linter.unusedVariables false

set_option maxHeartbeats 400000 in
theorem before_ne (s : ByteArray) (B : Nat) (a0 a1 b0 b1 : Nat) (w : World) (hB : B < w.heap.size) (hs : w.cell? ⟨B, 0, none⟩ = some (.string s)) (ha : a0 < a1) (ha1 : a1 ≤ s.size) (hb : b0 < b1) (hb1 : b1 ≤ s.size) (hm : s.size ≤ 1048576) 
   (hne : ((s[a0].toNat : Int) != (s[b0].toNat : Int)) = true):
    Calls Try.prog 37 #[.pointer (some ⟨B, 0, none⟩), .agg #[.int .i64 a0, .int .i64 a1], .agg #[.int .i64 b0, .int .i64 b1]] w fun e w' => e = .returned (.bool (decide (s[a0].toNat < s[b0].toNat))) ∧ Below w.heap.size w w' := by
  have i1 : a0 < s.size := by omega
  have i2 : b0 < s.size := by omega
  have j1 : (a0 : Int) < (s.size : Int) := by omega
  have j2 : (b0 : Int) < (s.size : Int) := by omega
  go_enter Try.func37, Try.ntmps37
  go_wp2
  go_quiet (fail)
  go_wp2
  go_ret
  exact ⟨rfl, below_drewN (((Below.refl _ _).alloc (Nat.le_refl _) _).alloc (by simp) _) _⟩

set_option maxHeartbeats 400000 in
theorem before_eq (s : ByteArray) (B : Nat) (a0 a1 b0 b1 : Nat) (w : World) (hB : B < w.heap.size) (hs : w.cell? ⟨B, 0, none⟩ = some (.string s)) (ha : a0 < a1) (ha1 : a1 ≤ s.size) (hb : b0 < b1) (hb1 : b1 ≤ s.size) (hm : s.size ≤ 1048576) 
   (hne : ((s[a0].toNat : Int) != (s[b0].toNat : Int)) = false):
    Calls Try.prog 37 #[.pointer (some ⟨B, 0, none⟩), .agg #[.int .i64 a0, .int .i64 a1], .agg #[.int .i64 b0, .int .i64 b1]] w fun e w' => e = .returned (.bool (Op.bytesLess (s.extract a0 a1).toList (s.extract b0 b1).toList)) ∧ Below w.heap.size w w' := by
  have i1 : a0 < s.size := by omega
  have i2 : b0 < s.size := by omega
  have j1 : (a0 : Int) < (s.size : Int) := by omega
  have j2 : (b0 : Int) < (s.size : Int) := by omega
  have k1 : (a0 : Int) ≤ (a1 : Int) := by omega
  have k2 : (a1 : Int) ≤ (s.size : Int) := by omega
  have k3 : (b0 : Int) ≤ (b1 : Int) := by omega
  have k4 : (b1 : Int) ≤ (s.size : Int) := by omega
  have k5 : a0 ≤ a1 := by omega
  have k6 : b0 ≤ b1 := by omega
  go_enter Try.func37, Try.ntmps37
  go_wp2
  go_quiet (fail)
  go_wp2
  go_quiet (fail)
  go_wp2
  go_ret
  exact ⟨rfl, below_drewN (below_drewN (((Below.refl _ _).alloc (Nat.le_refl _) _).alloc (by simp) _) _) _⟩

theorem bytesLess_head (x y : UInt8) (l m : List UInt8) (h : x ≠ y) : Op.bytesLess (x :: l) (y :: m) = decide (x.toNat < y.toNat) := by
  have : (x == y) = false := by simpa using h
  simp only [Op.bytesLess, this, Bool.false_and, Bool.or_false]
  rw [Bool.eq_iff_iff]; simp [UInt8.lt_iff_toNat_lt]
theorem piece_head (s : ByteArray) (a b : Nat) (h : a < b) (hb : b ≤ s.size) : ∃ l, (s.extract a b).toList = s[a] :: l := by
  rw [Lib.extract_toList]
  have hl : a < s.data.toList.length := by simp; show a < s.size; omega
  rw [List.drop_eq_getElem_cons hl]
  obtain ⟨n, hn⟩ : ∃ n, b - a = n + 1 := ⟨b - a - 1, by omega⟩
  rw [hn, List.take_succ_cons]
  exact ⟨_, rfl⟩
/-- (*SortedPieces).before: the pieces' bytes, compared. -/
theorem before_any (s : ByteArray) (B : Nat) (a0 a1 b0 b1 : Nat) (w : World) (hB : B < w.heap.size) (hs : w.cell? ⟨B, 0, none⟩ = some (.string s)) (ha : a0 < a1) (ha1 : a1 ≤ s.size) (hb : b0 < b1) (hb1 : b1 ≤ s.size) (hm : s.size ≤ 1048576) :
    Calls Try.prog 37 #[.pointer (some ⟨B, 0, none⟩), .agg #[.int .i64 a0, .int .i64 a1], .agg #[.int .i64 b0, .int .i64 b1]] w fun e w' => e = .returned (.bool (Op.bytesLess (s.extract a0 a1).toList (s.extract b0 b1).toList)) ∧ Below w.heap.size w w' := by
  by_cases h : s[a0] = s[b0]
  · exact before_eq s B a0 a1 b0 b1 w hB hs ha ha1 hb hb1 hm (by rw [h]; simp)
  · have hne : ((s[a0].toNat : Int) != (s[b0].toNat : Int)) = true := by
      simp only [bne_iff_ne, ne_eq]; intro e; exact h (UInt8.toNat_inj.mp (by omega))
    obtain ⟨l, hl⟩ := piece_head s a0 a1 ha ha1
    obtain ⟨m, hm'⟩ := piece_head s b0 b1 hb hb1
    rw [hl, hm', bytesLess_head _ _ _ _ h]
    exact before_ne s B a0 a1 b0 b1 w hB hs ha ha1 hb hb1 hm hne
end Go.Proofs.Qxb6603421a.RI
