import Derived.Test.Qxb6603449aRows
import Derived.WalkKit
import Derived.ProofKit
namespace Go.Proofs.Qxb6603449a.PA
open Go.RowKit

/-- A byte of printable ASCII. -/
def In (b : Nat) : Prop := 32 ≤ b ∧ b ≤ 126
/-- The k low bytes of p are below 128. -/
def low7 : Nat → Nat → Prop
  | 0, _ => True
  | k + 1, p => p % 256 < 128 ∧ low7 k (p / 256)
/-- The k low bytes of x are printable. -/
def good : Nat → Nat → Prop
  | 0, _ => True
  | k + 1, x => In (x % 256) ∧ good k (x / 256)
def rep (c : Nat) : Nat → Nat
  | 0 => 0
  | k + 1 => c + 256 * rep c k

theorem rep_lt (c k : Nat) (h : c < 256) : rep c k < 256 ^ k := by
  induction k with
  | zero => simp [rep]
  | succ k ih => rw [rep, Nat.pow_succ]; omega

set_option maxRecDepth 10000 in
theorem tops_and (a : Nat) (h : a < 256) : a &&& 128 = 0 ↔ a < 128 := by
  revert h; revert a; decide

theorem and_tops (k m : Nat) : m &&& rep 128 k = 0 ↔ low7 k m := by
  induction k generalizing m with
  | zero => simp [rep, low7]
  | succ k ih =>
    have e1 : (m &&& rep 128 (k + 1)) % 2 ^ 8 = m % 2 ^ 8 &&& rep 128 (k + 1) % 2 ^ 8 := Nat.and_mod_two_pow
    have e2 : (m &&& rep 128 (k + 1)) / 2 ^ 8 = m / 2 ^ 8 &&& rep 128 (k + 1) / 2 ^ 8 := Nat.and_div_two_pow
    have r1 : rep 128 (k + 1) % 2 ^ 8 = 128 := by rw [rep]; omega
    have r2 : rep 128 (k + 1) / 2 ^ 8 = rep 128 k := by rw [rep]; omega
    rw [r1] at e1
    rw [r2] at e2
    have t := tops_and (m % 256) (Nat.mod_lt _ (by omega))
    have i := ih (m / 256)
    rw [low7, ← t, ← i]
    constructor
    · intro h; rw [h] at e1 e2; exact ⟨by simpa using e1.symm, by simpa using e2.symm⟩
    · rintro ⟨h1, h2⟩
      have : (2 : Nat) ^ 8 = 256 := rfl
      rw [this] at e1 e2
      rw [h1] at e1; rw [h2] at e2
      omega

theorem mod_pow_succ (n k : Nat) : n % 256 ^ (k + 1) % 256 = n % 256 ∧ n % 256 ^ (k + 1) / 256 = n / 256 % 256 ^ k := by
  rw [Nat.pow_succ, Nat.mul_comm (256 ^ k) 256, Nat.mod_mul]
  have := Nat.mod_lt n (show 256 > 0 by omega)
  constructor <;> omega

theorem swar (k x : Nat) : (low7 k ((x + rep 1 k) % 256 ^ k) ∧ low7 k ((x + (256 ^ k - rep 32 k)) % 256 ^ k)) ↔ good k x := by
  induction k generalizing x with
  | zero => simp [low7, good]
  | succ k ih =>
    have p := mod_pow_succ (x + rep 1 (k + 1)) k
    have q := mod_pow_succ (x + (256 ^ (k + 1) - rep 32 (k + 1))) k
    have l := rep_lt 32 k (by omega)
    have i := ih (x / 256)
    have e : 256 ^ (k + 1) - rep 32 (k + 1) = 256 * (256 ^ k - rep 32 k) - 32 := by rw [rep, Nat.pow_succ]; omega
    rw [low7, low7, good, p.1, p.2, q.1, q.2, ← i]
    unfold In
    rw [e]
    have f : rep 1 (k + 1) = 1 + 256 * rep 1 k := rfl
    rw [f]
    have hY : 0 < 256 ^ k - rep 32 k := by omega
    clear p q l i e f ih
    generalize 256 ^ k - rep 32 k = Y at *
    generalize rep 1 k = Z at *
    have hb : x % 256 < 256 := by omega
    obtain ⟨b, hb0⟩ : ∃ b, b = x % 256 := ⟨_, rfl⟩
    obtain ⟨y, hy0⟩ : ∃ y, y = x / 256 := ⟨_, rfl⟩
    have hx : x = b + 256 * y := by omega
    rw [← hb0] at hb
    rw [← hb0, ← hy0]
    clear hb0 hy0
    subst hx
    constructor
    · rintro ⟨⟨h1, h2⟩, h3, h4⟩
      have hl : 32 ≤ b ∧ b ≤ 126 := by omega
      have u1 : (b + 256 * y + (1 + 256 * Z)) / 256 = y + Z := by omega
      have u2 : (b + 256 * y + (256 * Y - 32)) / 256 = y + Y := by omega
      rw [u1] at h2
      rw [u2] at h4
      exact ⟨hl, h2, h4⟩
    · rintro ⟨hl, h2, h4⟩
      have u1 : (b + 256 * y + (1 + 256 * Z)) / 256 = y + Z := by omega
      have u2 : (b + 256 * y + (256 * Y - 32)) / 256 = y + Y := by omega
      rw [u1, u2]
      exact ⟨⟨by omega, h2⟩, by omega, h4⟩

/-- What the closure of printableASCII answers at a word. -/
theorem swar8 (x : Nat) : ((x + 72340172838076673) % 18446744073709551616 ||| (x + 16131858542891098080) % 18446744073709551616) &&& 9259542123273814144 = 0 ↔ good 8 x := by
  have h := swar 8 x
  have e1 : rep 1 8 = 72340172838076673 := by decide
  have e2 : rep 32 8 = 2314885530818453536 := by decide
  have e3 : rep 128 8 = 9259542123273814144 := by decide
  have e4 : (256 : Nat) ^ 8 = 18446744073709551616 := by decide
  rw [← h, ← and_tops, ← and_tops, e1, e2, e3, e4, Nat.and_or_distrib_right, Nat.or_eq_zero_iff]
end Go.Proofs.Qxb6603449a.PA
