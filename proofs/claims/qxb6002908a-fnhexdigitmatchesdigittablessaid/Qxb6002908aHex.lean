import Derived.Test.Qxb6002908aRows
import Derived.WalkKit
import Derived.ProofKit
namespace Go.Proofs.Qxb6002908a.HX
open Go.RowKit

/-- What hexDigit answers: the value and whether the byte is a digit. -/
def Hx (c v : Int) (ok : Bool) : Prop :=
  (48 ≤ c ∧ c ≤ 57 ∧ v = c - 48 ∧ ok = true) ∨ (97 ≤ c ∧ c ≤ 102 ∧ v = c - 87 ∧ ok = true) ∨ (65 ≤ c ∧ c ≤ 70 ∧ v = c - 55 ∧ ok = true) ∨
    (¬ (48 ≤ c ∧ c ≤ 57) ∧ ¬ (97 ≤ c ∧ c ≤ 102) ∧ ¬ (65 ≤ c ∧ c ≤ 70) ∧ v = 0 ∧ ok = false)
def HxPost (c : Int) (w : World) (e : Ending) (w' : World) : Prop := ∃ v ok, e = .returned (.tuple #[.int .u8 v, .bool ok]) ∧ Hx c v ok ∧ w = w'

theorem hex_any (c : Int) (w : World) (h0 : 0 ≤ c) (h1 : c ≤ 255) :
    Calls Try.prog 9 #[.int .u8 c] w fun e w' => HxPost c w e w' := by
  by_cases a1 : 48 ≤ c
  · by_cases a2 : c ≤ 57
    · go_enter Try.func9, Try.ntmps9
      go_wp2
      go_ret2
      exact ⟨c - 48, true, by go_num, Or.inl ⟨a1, a2, by omega, rfl⟩, rfl⟩
    · by_cases a3 : 97 ≤ c
      · by_cases a4 : c ≤ 102
        · go_enter Try.func9, Try.ntmps9
          go_wp2
          go_ret2
          exact ⟨c - 97 + 10, true, by go_num, Or.inr (Or.inl ⟨a3, a4, by omega, rfl⟩), rfl⟩
        · have a6 : ¬ c ≤ 70 := by omega
          have a5 : 65 ≤ c := by omega
          go_enter Try.func9, Try.ntmps9
          go_wp2
          go_ret2
          exact ⟨0, false, rfl, Or.inr (Or.inr (Or.inr ⟨by omega, by omega, by omega, rfl, rfl⟩)), rfl⟩
      · by_cases a5 : 65 ≤ c
        · by_cases a6 : c ≤ 70
          · go_enter Try.func9, Try.ntmps9
            go_wp2
            go_ret2
            exact ⟨c - 65 + 10, true, by go_num, Or.inr (Or.inr (Or.inl ⟨a5, a6, by omega, rfl⟩)), rfl⟩
          · go_enter Try.func9, Try.ntmps9
            go_wp2
            go_ret2
            exact ⟨0, false, rfl, Or.inr (Or.inr (Or.inr ⟨by omega, by omega, by omega, rfl, rfl⟩)), rfl⟩
        · go_enter Try.func9, Try.ntmps9
          go_wp2
          go_ret2
          exact ⟨0, false, rfl, Or.inr (Or.inr (Or.inr ⟨by omega, by omega, by omega, rfl, rfl⟩)), rfl⟩
  · have a3 : ¬ 97 ≤ c := by omega
    have a5 : ¬ 65 ≤ c := by omega
    go_enter Try.func9, Try.ntmps9
    go_wp2
    go_ret2
    exact ⟨0, false, rfl, Or.inr (Or.inr (Or.inr ⟨by omega, by omega, by omega, rfl, rfl⟩)), rfl⟩

theorem zz_any (c : Int) (w : World) (h0 : 0 ≤ c) (h1 : c ≤ 255) :
    Calls Try.prog 5 #[.int .u8 c] w fun e w' => HxPost c w e w' := by
  go_enter Try.func5, Try.ntmps5
  go_wp2_with (go_at_call 9; refine (hex_any c _ h0 h1).mono ?_; rintro e w' ⟨v, ok, rfl, hx, rfl⟩)
  go_ret2
  exact ⟨v, ok, rfl, hx, rfl⟩

/-- The byte c stands in neither table below place i. -/
def Off (c : Int) (i : Nat) : Prop := ¬ (48 ≤ c ∧ c < 48 + i ∧ c < 58) ∧ ¬ (97 ≤ c ∧ c < 87 + i) ∧ ¬ (65 ≤ c ∧ c < 55 + i)

theorem sub16 (i : Nat) (h : i < 16) : i = 0 ∨ i = 1 ∨ i = 2 ∨ i = 3 ∨ i = 4 ∨ i = 5 ∨ i = 6 ∨ i = 7 ∨ i = 8 ∨ i = 9 ∨ i = 10 ∨ i = 11 ∨ i = 12 ∨ i = 13 ∨ i = 14 ∨ i = 15 := by omega

theorem hx_d {c v : Int} {ok : Bool} (h : Hx c v ok) (a : 48 ≤ c) (b : c ≤ 57) : v = c - 48 ∧ ok = true := by
  rcases h with h | h | h | h
  · exact ⟨h.2.2.1, h.2.2.2⟩
  · omega
  · omega
  · exact absurd ⟨a, b⟩ h.1
theorem hx_l {c v : Int} {ok : Bool} (h : Hx c v ok) (a : 97 ≤ c) (b : c ≤ 102) : v = c - 87 ∧ ok = true := by
  rcases h with h | h | h | h
  · omega
  · exact ⟨h.2.2.1, h.2.2.2⟩
  · omega
  · exact absurd ⟨a, b⟩ h.2.1
theorem hx_u {c v : Int} {ok : Bool} (h : Hx c v ok) (a : 65 ≤ c) (b : c ≤ 70) : v = c - 55 ∧ ok = true := by
  rcases h with h | h | h | h
  · omega
  · omega
  · exact ⟨h.2.2.1, h.2.2.2⟩
  · exact absurd ⟨a, b⟩ h.2.2.1
theorem hx_off {c v : Int} {ok : Bool} (h : Hx c v ok) (o : Off c 16) : v = 0 ∧ ok = false := by
  unfold Off at o
  rcases h with h | h | h | h
  · omega
  · omega
  · omega
  · exact ⟨h.2.2.2.1, h.2.2.2.2⟩

theorem off_eq {c k : Int} (h : ¬ c = k) : (k == c) = false := by simp only [beq_eq_false_iff_ne]; omega
set_option maxHeartbeats 2000000 in
theorem law (c : Int) (w : World) (h0 : 0 ≤ c) (h1 : c ≤ 255) :
    Calls Try.prog 3 #[.int .u8 c] w fun e w' => e = .returned (.bool true) ∧ w' = w := by
  go_enter Try.func3, Try.ntmps3
  go_wp2_with (go_at_call 5; refine (zz_any c _ h0 h1).mono ?_; rintro e w' ⟨v, ok, rfl, hx, rfl⟩; have HX : Hid _ := hx; clear hx)
  go_loopw [5] (fun vi wx => ∃ i : Nat, vi = .int .i64 i ∧ i ≤ 16 ∧ Hid (Off c i) ∧ w = wx) (fun vi _ => 16 - (intOf vi).toNat)
  case atStart => exact ⟨0, rfl, by omega, by unfold Hid Off; omega, rfl⟩
  case round =>
    obtain ⟨i, rfl, hi, hof, rfl⟩ := hrel
    by_cases hl : i < 16
    · rcases sub16 i hl with rfl | rfl | rfl | rfl | rfl | rfl | rfl | rfl | rfl | rfl | rfl | rfl | rfl | rfl | rfl | rfl
      · by_cases e1 : c = 48
        · subst e1
          obtain ⟨rfl, rfl⟩ := hx_d HX.out (by omega) (by omega)
          go_wp2
          go_ret
          exact ⟨rfl, rfl⟩
        · have n1 : (((({ data := #[48, 49, 50, 51, 52, 53, 54, 55, 56, 57, 97, 98, 99, 100, 101, 102] } : ByteArray)[0]).toNat : Int) == c) = false := off_eq e1
          have n2 : (((({ data := #[48, 49, 50, 51, 52, 53, 54, 55, 56, 57, 65, 66, 67, 68, 69, 70] } : ByteArray)[0]).toNat : Int) == c) = false := off_eq e1
          go_wp2
          go_roundw
          case rel => exact ⟨1, rfl, by omega, by have := hof.out; unfold Off at this; unfold Hid Off; omega, by trivial⟩
          case measure => simp [intOf]
      · by_cases e1 : c = 49
        · subst e1
          obtain ⟨rfl, rfl⟩ := hx_d HX.out (by omega) (by omega)
          go_wp2
          go_ret
          exact ⟨rfl, rfl⟩
        · have n1 : (((({ data := #[48, 49, 50, 51, 52, 53, 54, 55, 56, 57, 97, 98, 99, 100, 101, 102] } : ByteArray)[1]).toNat : Int) == c) = false := off_eq e1
          have n2 : (((({ data := #[48, 49, 50, 51, 52, 53, 54, 55, 56, 57, 65, 66, 67, 68, 69, 70] } : ByteArray)[1]).toNat : Int) == c) = false := off_eq e1
          go_wp2
          go_roundw
          case rel => exact ⟨2, rfl, by omega, by have := hof.out; unfold Off at this; unfold Hid Off; omega, by trivial⟩
          case measure => simp [intOf]
      · by_cases e1 : c = 50
        · subst e1
          obtain ⟨rfl, rfl⟩ := hx_d HX.out (by omega) (by omega)
          go_wp2
          go_ret
          exact ⟨rfl, rfl⟩
        · have n1 : (((({ data := #[48, 49, 50, 51, 52, 53, 54, 55, 56, 57, 97, 98, 99, 100, 101, 102] } : ByteArray)[2]).toNat : Int) == c) = false := off_eq e1
          have n2 : (((({ data := #[48, 49, 50, 51, 52, 53, 54, 55, 56, 57, 65, 66, 67, 68, 69, 70] } : ByteArray)[2]).toNat : Int) == c) = false := off_eq e1
          go_wp2
          go_roundw
          case rel => exact ⟨3, rfl, by omega, by have := hof.out; unfold Off at this; unfold Hid Off; omega, by trivial⟩
          case measure => simp [intOf]
      · by_cases e1 : c = 51
        · subst e1
          obtain ⟨rfl, rfl⟩ := hx_d HX.out (by omega) (by omega)
          go_wp2
          go_ret
          exact ⟨rfl, rfl⟩
        · have n1 : (((({ data := #[48, 49, 50, 51, 52, 53, 54, 55, 56, 57, 97, 98, 99, 100, 101, 102] } : ByteArray)[3]).toNat : Int) == c) = false := off_eq e1
          have n2 : (((({ data := #[48, 49, 50, 51, 52, 53, 54, 55, 56, 57, 65, 66, 67, 68, 69, 70] } : ByteArray)[3]).toNat : Int) == c) = false := off_eq e1
          go_wp2
          go_roundw
          case rel => exact ⟨4, rfl, by omega, by have := hof.out; unfold Off at this; unfold Hid Off; omega, by trivial⟩
          case measure => simp [intOf]
      · by_cases e1 : c = 52
        · subst e1
          obtain ⟨rfl, rfl⟩ := hx_d HX.out (by omega) (by omega)
          go_wp2
          go_ret
          exact ⟨rfl, rfl⟩
        · have n1 : (((({ data := #[48, 49, 50, 51, 52, 53, 54, 55, 56, 57, 97, 98, 99, 100, 101, 102] } : ByteArray)[4]).toNat : Int) == c) = false := off_eq e1
          have n2 : (((({ data := #[48, 49, 50, 51, 52, 53, 54, 55, 56, 57, 65, 66, 67, 68, 69, 70] } : ByteArray)[4]).toNat : Int) == c) = false := off_eq e1
          go_wp2
          go_roundw
          case rel => exact ⟨5, rfl, by omega, by have := hof.out; unfold Off at this; unfold Hid Off; omega, by trivial⟩
          case measure => simp [intOf]
      · by_cases e1 : c = 53
        · subst e1
          obtain ⟨rfl, rfl⟩ := hx_d HX.out (by omega) (by omega)
          go_wp2
          go_ret
          exact ⟨rfl, rfl⟩
        · have n1 : (((({ data := #[48, 49, 50, 51, 52, 53, 54, 55, 56, 57, 97, 98, 99, 100, 101, 102] } : ByteArray)[5]).toNat : Int) == c) = false := off_eq e1
          have n2 : (((({ data := #[48, 49, 50, 51, 52, 53, 54, 55, 56, 57, 65, 66, 67, 68, 69, 70] } : ByteArray)[5]).toNat : Int) == c) = false := off_eq e1
          go_wp2
          go_roundw
          case rel => exact ⟨6, rfl, by omega, by have := hof.out; unfold Off at this; unfold Hid Off; omega, by trivial⟩
          case measure => simp [intOf]
      · by_cases e1 : c = 54
        · subst e1
          obtain ⟨rfl, rfl⟩ := hx_d HX.out (by omega) (by omega)
          go_wp2
          go_ret
          exact ⟨rfl, rfl⟩
        · have n1 : (((({ data := #[48, 49, 50, 51, 52, 53, 54, 55, 56, 57, 97, 98, 99, 100, 101, 102] } : ByteArray)[6]).toNat : Int) == c) = false := off_eq e1
          have n2 : (((({ data := #[48, 49, 50, 51, 52, 53, 54, 55, 56, 57, 65, 66, 67, 68, 69, 70] } : ByteArray)[6]).toNat : Int) == c) = false := off_eq e1
          go_wp2
          go_roundw
          case rel => exact ⟨7, rfl, by omega, by have := hof.out; unfold Off at this; unfold Hid Off; omega, by trivial⟩
          case measure => simp [intOf]
      · by_cases e1 : c = 55
        · subst e1
          obtain ⟨rfl, rfl⟩ := hx_d HX.out (by omega) (by omega)
          go_wp2
          go_ret
          exact ⟨rfl, rfl⟩
        · have n1 : (((({ data := #[48, 49, 50, 51, 52, 53, 54, 55, 56, 57, 97, 98, 99, 100, 101, 102] } : ByteArray)[7]).toNat : Int) == c) = false := off_eq e1
          have n2 : (((({ data := #[48, 49, 50, 51, 52, 53, 54, 55, 56, 57, 65, 66, 67, 68, 69, 70] } : ByteArray)[7]).toNat : Int) == c) = false := off_eq e1
          go_wp2
          go_roundw
          case rel => exact ⟨8, rfl, by omega, by have := hof.out; unfold Off at this; unfold Hid Off; omega, by trivial⟩
          case measure => simp [intOf]
      · by_cases e1 : c = 56
        · subst e1
          obtain ⟨rfl, rfl⟩ := hx_d HX.out (by omega) (by omega)
          go_wp2
          go_ret
          exact ⟨rfl, rfl⟩
        · have n1 : (((({ data := #[48, 49, 50, 51, 52, 53, 54, 55, 56, 57, 97, 98, 99, 100, 101, 102] } : ByteArray)[8]).toNat : Int) == c) = false := off_eq e1
          have n2 : (((({ data := #[48, 49, 50, 51, 52, 53, 54, 55, 56, 57, 65, 66, 67, 68, 69, 70] } : ByteArray)[8]).toNat : Int) == c) = false := off_eq e1
          go_wp2
          go_roundw
          case rel => exact ⟨9, rfl, by omega, by have := hof.out; unfold Off at this; unfold Hid Off; omega, by trivial⟩
          case measure => simp [intOf]
      · by_cases e1 : c = 57
        · subst e1
          obtain ⟨rfl, rfl⟩ := hx_d HX.out (by omega) (by omega)
          go_wp2
          go_ret
          exact ⟨rfl, rfl⟩
        · have n1 : (((({ data := #[48, 49, 50, 51, 52, 53, 54, 55, 56, 57, 97, 98, 99, 100, 101, 102] } : ByteArray)[9]).toNat : Int) == c) = false := off_eq e1
          have n2 : (((({ data := #[48, 49, 50, 51, 52, 53, 54, 55, 56, 57, 65, 66, 67, 68, 69, 70] } : ByteArray)[9]).toNat : Int) == c) = false := off_eq e1
          go_wp2
          go_roundw
          case rel => exact ⟨10, rfl, by omega, by have := hof.out; unfold Off at this; unfold Hid Off; omega, by trivial⟩
          case measure => simp [intOf]
      · by_cases e1 : c = 97
        · subst e1
          obtain ⟨rfl, rfl⟩ := hx_l HX.out (by omega) (by omega)
          go_wp2
          go_ret
          exact ⟨rfl, rfl⟩
        · by_cases e2 : c = 65
          · subst e2
            obtain ⟨rfl, rfl⟩ := hx_u HX.out (by omega) (by omega)
            go_wp2
            go_ret
            exact ⟨rfl, rfl⟩
          · have n1 : (((({ data := #[48, 49, 50, 51, 52, 53, 54, 55, 56, 57, 97, 98, 99, 100, 101, 102] } : ByteArray)[10]).toNat : Int) == c) = false := off_eq e1
            have n2 : (((({ data := #[48, 49, 50, 51, 52, 53, 54, 55, 56, 57, 65, 66, 67, 68, 69, 70] } : ByteArray)[10]).toNat : Int) == c) = false := off_eq e2
            go_wp2
            go_roundw
            case rel => exact ⟨11, rfl, by omega, by have := hof.out; unfold Off at this; unfold Hid Off; omega, by trivial⟩
            case measure => simp [intOf]
      · by_cases e1 : c = 98
        · subst e1
          obtain ⟨rfl, rfl⟩ := hx_l HX.out (by omega) (by omega)
          go_wp2
          go_ret
          exact ⟨rfl, rfl⟩
        · by_cases e2 : c = 66
          · subst e2
            obtain ⟨rfl, rfl⟩ := hx_u HX.out (by omega) (by omega)
            go_wp2
            go_ret
            exact ⟨rfl, rfl⟩
          · have n1 : (((({ data := #[48, 49, 50, 51, 52, 53, 54, 55, 56, 57, 97, 98, 99, 100, 101, 102] } : ByteArray)[11]).toNat : Int) == c) = false := off_eq e1
            have n2 : (((({ data := #[48, 49, 50, 51, 52, 53, 54, 55, 56, 57, 65, 66, 67, 68, 69, 70] } : ByteArray)[11]).toNat : Int) == c) = false := off_eq e2
            go_wp2
            go_roundw
            case rel => exact ⟨12, rfl, by omega, by have := hof.out; unfold Off at this; unfold Hid Off; omega, by trivial⟩
            case measure => simp [intOf]
      · by_cases e1 : c = 99
        · subst e1
          obtain ⟨rfl, rfl⟩ := hx_l HX.out (by omega) (by omega)
          go_wp2
          go_ret
          exact ⟨rfl, rfl⟩
        · by_cases e2 : c = 67
          · subst e2
            obtain ⟨rfl, rfl⟩ := hx_u HX.out (by omega) (by omega)
            go_wp2
            go_ret
            exact ⟨rfl, rfl⟩
          · have n1 : (((({ data := #[48, 49, 50, 51, 52, 53, 54, 55, 56, 57, 97, 98, 99, 100, 101, 102] } : ByteArray)[12]).toNat : Int) == c) = false := off_eq e1
            have n2 : (((({ data := #[48, 49, 50, 51, 52, 53, 54, 55, 56, 57, 65, 66, 67, 68, 69, 70] } : ByteArray)[12]).toNat : Int) == c) = false := off_eq e2
            go_wp2
            go_roundw
            case rel => exact ⟨13, rfl, by omega, by have := hof.out; unfold Off at this; unfold Hid Off; omega, by trivial⟩
            case measure => simp [intOf]
      · by_cases e1 : c = 100
        · subst e1
          obtain ⟨rfl, rfl⟩ := hx_l HX.out (by omega) (by omega)
          go_wp2
          go_ret
          exact ⟨rfl, rfl⟩
        · by_cases e2 : c = 68
          · subst e2
            obtain ⟨rfl, rfl⟩ := hx_u HX.out (by omega) (by omega)
            go_wp2
            go_ret
            exact ⟨rfl, rfl⟩
          · have n1 : (((({ data := #[48, 49, 50, 51, 52, 53, 54, 55, 56, 57, 97, 98, 99, 100, 101, 102] } : ByteArray)[13]).toNat : Int) == c) = false := off_eq e1
            have n2 : (((({ data := #[48, 49, 50, 51, 52, 53, 54, 55, 56, 57, 65, 66, 67, 68, 69, 70] } : ByteArray)[13]).toNat : Int) == c) = false := off_eq e2
            go_wp2
            go_roundw
            case rel => exact ⟨14, rfl, by omega, by have := hof.out; unfold Off at this; unfold Hid Off; omega, by trivial⟩
            case measure => simp [intOf]
      · by_cases e1 : c = 101
        · subst e1
          obtain ⟨rfl, rfl⟩ := hx_l HX.out (by omega) (by omega)
          go_wp2
          go_ret
          exact ⟨rfl, rfl⟩
        · by_cases e2 : c = 69
          · subst e2
            obtain ⟨rfl, rfl⟩ := hx_u HX.out (by omega) (by omega)
            go_wp2
            go_ret
            exact ⟨rfl, rfl⟩
          · have n1 : (((({ data := #[48, 49, 50, 51, 52, 53, 54, 55, 56, 57, 97, 98, 99, 100, 101, 102] } : ByteArray)[14]).toNat : Int) == c) = false := off_eq e1
            have n2 : (((({ data := #[48, 49, 50, 51, 52, 53, 54, 55, 56, 57, 65, 66, 67, 68, 69, 70] } : ByteArray)[14]).toNat : Int) == c) = false := off_eq e2
            go_wp2
            go_roundw
            case rel => exact ⟨15, rfl, by omega, by have := hof.out; unfold Off at this; unfold Hid Off; omega, by trivial⟩
            case measure => simp [intOf]
      · by_cases e1 : c = 102
        · subst e1
          obtain ⟨rfl, rfl⟩ := hx_l HX.out (by omega) (by omega)
          go_wp2
          go_ret
          exact ⟨rfl, rfl⟩
        · by_cases e2 : c = 70
          · subst e2
            obtain ⟨rfl, rfl⟩ := hx_u HX.out (by omega) (by omega)
            go_wp2
            go_ret
            exact ⟨rfl, rfl⟩
          · have n1 : (((({ data := #[48, 49, 50, 51, 52, 53, 54, 55, 56, 57, 97, 98, 99, 100, 101, 102] } : ByteArray)[15]).toNat : Int) == c) = false := off_eq e1
            have n2 : (((({ data := #[48, 49, 50, 51, 52, 53, 54, 55, 56, 57, 65, 66, 67, 68, 69, 70] } : ByteArray)[15]).toNat : Int) == c) = false := off_eq e2
            go_wp2
            go_roundw
            case rel => exact ⟨16, rfl, by omega, by have := hof.out; unfold Off at this; unfold Hid Off; omega, by trivial⟩
            case measure => simp [intOf]
    · obtain rfl : i = 16 := by omega
      obtain ⟨rfl, rfl⟩ := hx_off HX.out hof.out
      go_wp2
      go_ret
      exact ⟨rfl, rfl⟩
end Go.Proofs.Qxb6002908a.HX
