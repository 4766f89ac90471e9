/-
  Seat b6604315a: a hexadecimal digit's value; hexDigitValue.
-/
import Derived.Test.Qxb6604315aRows
import Derived.WalkKit
import Derived.OpenShut
namespace Go.Proofs.Qxb6604315a
open Go.RowKit

/-- A digit's value, or -1. -/
def dv (c : Int) : Int := if 48 ≤ c ∧ c ≤ 57 then c - 48 else if 97 ≤ c ∧ c ≤ 102 then c - 87 else if 65 ≤ c ∧ c ≤ 70 then c - 55 else -1

theorem dv_range (c : Int) : -1 ≤ dv c ∧ dv c ≤ 15 := by
  unfold dv
  repeat' split
  all_goals omega

theorem dv_dec {c : Int} (h : 48 ≤ c) (h2 : c ≤ 57) : dv c = c - 48 := by unfold dv; rw [if_pos ⟨h, h2⟩]
theorem dv_low {c : Int} (h : 97 ≤ c) (h2 : c ≤ 102) : dv c = c - 87 := by unfold dv; rw [if_neg (by omega), if_pos ⟨h, h2⟩]
theorem dv_up {c : Int} (h : 65 ≤ c) (h2 : c ≤ 70) : dv c = c - 55 := by unfold dv; rw [if_neg (by omega), if_neg (by omega), if_pos ⟨h, h2⟩]
theorem dv_no {c : Int} (h1 : ¬ (48 ≤ c ∧ c ≤ 57)) (h2 : ¬ (97 ≤ c ∧ c ≤ 102)) (h3 : ¬ (65 ≤ c ∧ c ≤ 70)) : dv c = -1 := by unfold dv; rw [if_neg h1, if_neg h2, if_neg h3]

theorem ret_i64 {a b : Int} (h : a = b) : Ending.returned (.int .i64 a) = .returned (.int .i64 b) := by rw [h]

/-- The two alphabets. -/
def lowS : ByteArray := ⟨#[48, 49, 50, 51, 52, 53, 54, 55, 56, 57, 97, 98, 99, 100, 101, 102]⟩
def upS : ByteArray := ⟨#[48, 49, 50, 51, 52, 53, 54, 55, 56, 57, 65, 66, 67, 68, 69, 70]⟩
def lowv (k : Nat) : Int := if k < 10 then 48 + k else 87 + k
def upv (k : Nat) : Int := if k < 10 then 48 + k else 55 + k

theorem lowS_at : ∀ k : Fin 16, ((lowS[k.val]'(k.isLt)).toNat : Int) = lowv k.val := by decide
theorem upS_at : ∀ k : Fin 16, ((upS[k.val]'(k.isLt)).toNat : Int) = upv k.val := by decide

theorem dv_hit {c : Int} {k : Nat} (hk : k < 16) (h : c = lowv k ∨ c = upv k) : dv c = k := by
  unfold lowv upv at h
  by_cases c10 : k < 10
  · rw [if_pos c10, if_pos c10] at h
    rw [dv_dec (by omega) (by omega)]; omega
  · rw [if_neg c10, if_neg c10] at h
    rcases h with h | h
    · rw [dv_low (by omega) (by omega)]; omega
    · rw [dv_up (by omega) (by omega)]; omega

theorem dv_conv {c : Int} {k : Nat} (h : dv c = k) : c = lowv k ∨ c = upv k := by
  unfold dv at h
  unfold lowv upv
  by_cases h1 : 48 ≤ c ∧ c ≤ 57
  · rw [if_pos h1] at h
    left; rw [if_pos (by omega)]; omega
  · rw [if_neg h1] at h
    by_cases h2 : 97 ≤ c ∧ c ≤ 102
    · rw [if_pos h2] at h
      left; rw [if_neg (by omega)]; omega
    · rw [if_neg h2] at h
      by_cases h3 : 65 ≤ c ∧ c ≤ 70
      · rw [if_pos h3] at h
        right; rw [if_neg (by omega)]; omega
      · rw [if_neg h3] at h; omega

set_option maxHeartbeats 2000000 in
theorem digit_any (c r : Int) (w : World) (hr : r = dv c) :
    Calls Try.prog 10 #[.int .u8 c] w fun e w' => e = .returned (.int .i64 r) ∧ w' = w := by
  have HR : Hid (r = dv c) := hr
  clear hr
  go_enter Try.func10, Try.ntmps10
  go_wp2
  go_loop [3] (fun v => ∃ k : Nat, k ≤ 16 ∧ v = .int .i64 k ∧ Hid (0 ≤ dv c → (k : Int) ≤ dv c)) (fun v => 16 - (intOf v).toNat)
  case atStart => exact ⟨0, by omega, rfl, fun h => h⟩
  case round =>
    obtain ⟨k, hk, rfl, HK⟩ := hrel
    by_cases hlt : k < 16
    · have HL : Hid (((lowS[k]'hlt).toNat : Int) = lowv k) := lowS_at ⟨k, hlt⟩
      have HU : Hid (((upS[k]'hlt).toNat : Int) = upv k) := upS_at ⟨k, hlt⟩
      have k0 : (0 : Int) ≤ (k : Int) := by omega
      have k1 : (k : Int) < 16 := by omega
      go_wp2
      · have h : (((lowS[k]'hlt).toNat : Nat) : Int) = c := by assumption
        go_ret
        exact ⟨ret_i64 (by rw [HR.out, dv_hit hlt (.inl (by rw [← h]; exact HL.out))]), rfl⟩
      · have h : ((((lowS[k]'hlt).toNat : Nat) : Int) == c) = true ∨ ((((upS[k]'hlt).toNat : Nat) : Int) == c) = true := by assumption
        have h2 : c = lowv k ∨ c = upv k := by
          rcases h with h | h
          · left; rw [← HL.out]; simpa using Eq.symm (by simpa using h)
          · right; rw [← HU.out]; simpa using Eq.symm (by simpa using h)
        go_ret
        exact ⟨ret_i64 (by rw [HR.out, dv_hit hlt h2]), rfl⟩
      · have h : ((((lowS[k]'hlt).toNat : Nat) : Int) == c) = false ∧ ((((upS[k]'hlt).toNat : Nat) : Int) == c) = false := by assumption
        have h2 : 0 ≤ dv c → ((k + 1 : Nat) : Int) ≤ dv c := fun h0 => by
          have h3 := HK.out h0
          have h4 : ¬ dv c = k := fun e => by
            rcases dv_conv e with q | q
            · rw [HL.out, q] at h; simp at h
            · rw [HU.out, q] at h; simp at h
          omega
        go_round
        case rel => exact ⟨k + 1, by omega, by go_num, h2⟩
        case measure => simp [intOf]; omega
    · have e : dv c = -1 := by
        have h1 := dv_range c
        by_cases h0 : 0 ≤ dv c
        · have := HK.out h0; omega
        · omega
      have HE : Hid (r = -1) := HR.out.trans e
      clear e HR
      go_wp2
      go_ret
      exact ⟨ret_i64 (by rw [HE.out]), rfl⟩

end Go.Proofs.Qxb6604315a
