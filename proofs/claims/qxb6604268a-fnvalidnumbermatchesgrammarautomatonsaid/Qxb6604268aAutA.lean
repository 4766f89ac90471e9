/-
  Seat b6604268a: numberStep, numberAccepting.
-/
import Derived.Test.Qxb6604268aNumC
import Derived.Test.Qxb6604268aAutPlain
namespace Go.Proofs.Qxb6604268a
open Go.RowKit

theorem ret_i64 {a b : Int} (h : a = b) : Ending.returned (.int .i64 a) = .returned (.int .i64 b) := by rw [h]

theorem digit_any (c : Int) (w : World) : Calls Try.prog 21 #[.int .u8 c] w fun e w' => e = .returned (.bool (dig c)) ∧ w' = w := by
  by_cases h1 : 48 ≤ c
  · by_cases h2 : c ≤ 57
    · have hd : dig c = true := (dig_iff c).2 ⟨h1, h2⟩
      rw [hd]
      clear hd
      go_enter Try.func21, Try.ntmps21
      go_wp2
      go_ret
      exact ⟨rfl, rfl⟩
    · have hd : dig c = false := by simp [dig, h2]
      rw [hd]
      clear hd
      go_enter Try.func21, Try.ntmps21
      go_wp2
      go_ret
      exact ⟨rfl, rfl⟩
  · have hd : dig c = false := by simp [dig, h1]
    rw [hd]
    clear hd
    go_enter Try.func21, Try.ntmps21
    go_wp2
    go_ret
    exact ⟨rfl, rfl⟩

set_option maxRecDepth 100000 in
set_option maxHeartbeats 1000000 in
theorem step0 (c : Int) (w : World) : Calls Try.prog 18 #[.int .i64 0, .int .u8 c] w fun e w' => e = .returned (.int .i64 (stp 0 c)) ∧ w' = w := by
  have E : stp 0 c = (if c = 45 then 1 else if c = 48 then 2 else if 49 ≤ c ∧ c ≤ 57 then 3 else -1) := by simp [stp]
  have HE : Hid (stp 0 c = (if c = 45 then 1 else if c = 48 then 2 else if 49 ≤ c ∧ c ≤ 57 then 3 else -1)) := E
  generalize stp 0 c = r at HE ⊢
  clear E
  go_enter Try.func18, Try.ntmps18
  go_wp2
  all_goals (go_ret; exact ⟨ret_i64 (by rw [HE.out]; simp_all <;> omega), rfl⟩)

set_option maxRecDepth 100000 in
set_option maxHeartbeats 1000000 in
theorem step1 (c : Int) (w : World) : Calls Try.prog 18 #[.int .i64 1, .int .u8 c] w fun e w' => e = .returned (.int .i64 (stp 1 c)) ∧ w' = w := by
  have E : stp 1 c = (if c = 48 then 2 else if 49 ≤ c ∧ c ≤ 57 then 3 else -1) := by simp [stp]
  have HE : Hid (stp 1 c = (if c = 48 then 2 else if 49 ≤ c ∧ c ≤ 57 then 3 else -1)) := E
  generalize stp 1 c = r at HE ⊢
  clear E
  go_enter Try.func18, Try.ntmps18
  go_wp2
  all_goals (go_ret; exact ⟨ret_i64 (by rw [HE.out]; simp_all <;> omega), rfl⟩)

set_option maxRecDepth 100000 in
set_option maxHeartbeats 1000000 in
theorem step2 (c : Int) (w : World) : Calls Try.prog 18 #[.int .i64 2, .int .u8 c] w fun e w' => e = .returned (.int .i64 (stp 2 c)) ∧ w' = w := by
  have E : stp 2 c = (if c = 46 then 4 else if c = 101 ∨ c = 69 then 6 else -1) := by simp [stp]
  have HE : Hid (stp 2 c = (if c = 46 then 4 else if c = 101 ∨ c = 69 then 6 else -1)) := E
  generalize stp 2 c = r at HE ⊢
  clear E
  go_enter Try.func18, Try.ntmps18
  go_wp2
  all_goals (go_ret; exact ⟨ret_i64 (by rw [HE.out]; simp_all <;> omega), rfl⟩)

set_option maxRecDepth 100000 in
set_option maxHeartbeats 1000000 in
theorem step3 (c : Int) (w : World) : Calls Try.prog 18 #[.int .i64 3, .int .u8 c] w fun e w' => e = .returned (.int .i64 (stp 3 c)) ∧ w' = w := by
  have E : stp 3 c = (if 48 ≤ c ∧ c ≤ 57 then 3 else if c = 46 then 4 else if c = 101 ∨ c = 69 then 6 else -1) := by simp [stp]
  have HE : Hid (stp 3 c = (if 48 ≤ c ∧ c ≤ 57 then 3 else if c = 46 then 4 else if c = 101 ∨ c = 69 then 6 else -1)) := E
  generalize stp 3 c = r at HE ⊢
  clear E
  go_enter Try.func18, Try.ntmps18
  go_wp2
  all_goals (go_ret; exact ⟨ret_i64 (by rw [HE.out]; simp_all <;> omega), rfl⟩)

set_option maxRecDepth 100000 in
set_option maxHeartbeats 1000000 in
theorem step4 (c : Int) (w : World) : Calls Try.prog 18 #[.int .i64 4, .int .u8 c] w fun e w' => e = .returned (.int .i64 (stp 4 c)) ∧ w' = w := by
  have E : stp 4 c = (if 48 ≤ c ∧ c ≤ 57 then 5 else -1) := by simp [stp]
  have HE : Hid (stp 4 c = (if 48 ≤ c ∧ c ≤ 57 then 5 else -1)) := E
  generalize stp 4 c = r at HE ⊢
  clear E
  go_enter Try.func18, Try.ntmps18
  go_wp2
  all_goals (go_ret; exact ⟨ret_i64 (by rw [HE.out]; simp_all <;> omega), rfl⟩)

set_option maxRecDepth 100000 in
set_option maxHeartbeats 1000000 in
theorem step5 (c : Int) (w : World) : Calls Try.prog 18 #[.int .i64 5, .int .u8 c] w fun e w' => e = .returned (.int .i64 (stp 5 c)) ∧ w' = w := by
  have E : stp 5 c = (if 48 ≤ c ∧ c ≤ 57 then 5 else if c = 101 ∨ c = 69 then 6 else -1) := by simp [stp]
  have HE : Hid (stp 5 c = (if 48 ≤ c ∧ c ≤ 57 then 5 else if c = 101 ∨ c = 69 then 6 else -1)) := E
  generalize stp 5 c = r at HE ⊢
  clear E
  go_enter Try.func18, Try.ntmps18
  go_wp2
  all_goals (go_ret; exact ⟨ret_i64 (by rw [HE.out]; simp_all <;> omega), rfl⟩)

set_option maxRecDepth 100000 in
set_option maxHeartbeats 1000000 in
theorem step6 (c : Int) (w : World) : Calls Try.prog 18 #[.int .i64 6, .int .u8 c] w fun e w' => e = .returned (.int .i64 (stp 6 c)) ∧ w' = w := by
  have E : stp 6 c = (if c = 43 ∨ c = 45 then 7 else if 48 ≤ c ∧ c ≤ 57 then 8 else -1) := by simp [stp]
  have HE : Hid (stp 6 c = (if c = 43 ∨ c = 45 then 7 else if 48 ≤ c ∧ c ≤ 57 then 8 else -1)) := E
  generalize stp 6 c = r at HE ⊢
  clear E
  go_enter Try.func18, Try.ntmps18
  go_wp2
  all_goals (go_ret; exact ⟨ret_i64 (by rw [HE.out]; simp_all <;> omega), rfl⟩)

set_option maxRecDepth 100000 in
set_option maxHeartbeats 1000000 in
theorem step7 (c : Int) (w : World) : Calls Try.prog 18 #[.int .i64 7, .int .u8 c] w fun e w' => e = .returned (.int .i64 (stp 7 c)) ∧ w' = w := by
  have E : stp 7 c = (if 48 ≤ c ∧ c ≤ 57 then 8 else -1) := by simp [stp]
  have HE : Hid (stp 7 c = (if 48 ≤ c ∧ c ≤ 57 then 8 else -1)) := E
  generalize stp 7 c = r at HE ⊢
  clear E
  go_enter Try.func18, Try.ntmps18
  go_wp2
  all_goals (go_ret; exact ⟨ret_i64 (by rw [HE.out]; simp_all <;> omega), rfl⟩)

set_option maxRecDepth 100000 in
set_option maxHeartbeats 1000000 in
theorem step8 (c : Int) (w : World) : Calls Try.prog 18 #[.int .i64 8, .int .u8 c] w fun e w' => e = .returned (.int .i64 (stp 8 c)) ∧ w' = w := by
  have E : stp 8 c = (if 48 ≤ c ∧ c ≤ 57 then 8 else -1) := by simp [stp]
  have HE : Hid (stp 8 c = (if 48 ≤ c ∧ c ≤ 57 then 8 else -1)) := E
  generalize stp 8 c = r at HE ⊢
  clear E
  go_enter Try.func18, Try.ntmps18
  go_wp2
  all_goals (go_ret; exact ⟨ret_i64 (by rw [HE.out]; simp_all <;> omega), rfl⟩)

theorem step_any (st c : Int) (w : World) (h0 : 0 ≤ st) (h8 : st ≤ 8) : Calls Try.prog 18 #[.int .i64 st, .int .u8 c] w fun e w' => e = .returned (.int .i64 (stp st c)) ∧ w' = w := by
  have h : st = 0 ∨ st = 1 ∨ st = 2 ∨ st = 3 ∨ st = 4 ∨ st = 5 ∨ st = 6 ∨ st = 7 ∨ st = 8 := by omega
  rcases h with rfl | rfl | rfl | rfl | rfl | rfl | rfl | rfl | rfl
  · exact step0 c w
  · exact step1 c w
  · exact step2 c w
  · exact step3 c w
  · exact step4 c w
  · exact step5 c w
  · exact step6 c w
  · exact step7 c w
  · exact step8 c w

theorem ret_b {a b : Bool} (h : a = b) : Ending.returned (.bool a) = .returned (.bool b) := by rw [h]

set_option maxHeartbeats 1000000 in
theorem acc_any (st : Int) (w : World) (h0 : 0 ≤ st) (h8 : st ≤ 8) : Calls Try.prog 19 #[.int .i64 st] w fun e w' => e = .returned (.bool (acc st)) ∧ w' = w := by
  have h : st = 0 ∨ st = 1 ∨ st = 2 ∨ st = 3 ∨ st = 4 ∨ st = 5 ∨ st = 6 ∨ st = 7 ∨ st = 8 := by omega
  rcases h with rfl | rfl | rfl | rfl | rfl | rfl | rfl | rfl | rfl
  all_goals
    go_enter Try.func19, Try.ntmps19
    go_wp2
    go_ret
    exact ⟨ret_b (by decide), rfl⟩

set_option maxHeartbeats 1000000 in
theorem automodel_any (a : Option Addr) (n cap i : Nat) (D : Nat → Int) (w : World) (hn : n ≤ 1048576) (hi : i ≤ n) (hr : ByteRow w a n D) :
    Calls Try.prog 13 #[.slice a n cap, .int .i64 i] w fun e w' => e = .returned (.tuple #[.int .i64 (out D n 0 i).1, .bool (out D n 0 i).2]) ∧ w' = w := by
  have HR : Hid (ByteRow w a n D) := hr
  clear hr
  obtain ⟨V, hV⟩ : ∃ V, V = out D n 0 i := ⟨_, rfl⟩
  have HV : Hid (V = out D n 0 i) := hV
  rw [← hV]
  clear hV
  go_enter Try.func13, Try.ntmps13
  go_wp2
  go_loop [6, 7] (fun s p => ∃ (st : Int) (k : Nat), s = .int .i64 st ∧ p = .int .i64 k ∧ k ≤ n ∧ 0 ≤ st ∧ st ≤ 8 ∧ Hid (V = out D n st k)) (fun _ p => n - (intOf p).toNat)
  case atStart => exact ⟨0, i, rfl, rfl, hi, by omega, by omega, HV⟩
  case round =>
    obtain ⟨st, k, rfl, rfl, hk, h0, h8, HK⟩ := hrel
    clear HV
    by_cases hlt : k < n
    · obtain ⟨b, off, rfl, hl, hc, hd⟩ := HR.out k hlt
      have HS : Hid (Calls Try.prog 18 #[.int .i64 st, .int .u8 (D k)] w fun e w' => e = .returned (.int .i64 (stp st (D k))) ∧ w' = w) := step_any st (D k) w h0 h8
      have HA : Hid (Calls Try.prog 19 #[.int .i64 st] w fun e w' => e = .returned (.bool (acc st)) ∧ w' = w) := acc_any st w h0 h8
      have hrg := stp_range st (D k)
      have E1 : Hid (stp st (D k) = -1 → out D n st k = (k, acc st)) := out_no hlt
      have E2 : Hid (¬ stp st (D k) = -1 → out D n st k = out D n (stp st (D k)) (k + 1)) := out_go _ hlt rfl
      clear HR
      generalize stp st (D k) = t at HS hrg E1 E2
      by_cases ht : t = -1
      · have E : Hid (V = (k, acc st)) := HK.out.trans (E1.out ht)
        subst ht
        clear HK E1 E2 hrg
        go_wp2_with (first | (go_at_call 18; refine HS.out.mono ?_; rintro e w' ⟨rfl, rfl⟩) | (go_at_call 19; refine HA.out.mono ?_; rintro e w' ⟨rfl, rfl⟩))
        go_ret2
        exact ⟨ret_pair (by rw [E.out]) (by rw [E.out]), rfl⟩
      · have E : Hid (V = out D n t (k + 1)) := HK.out.trans (E2.out ht)
        have ht' : (t == -1) = false := by simpa using ht
        have ht0 : 0 ≤ t := by omega
        clear HK E1 E2 ht HA
        go_wp2_with (first | (go_at_call 18; refine HS.out.mono ?_; rintro e w' ⟨rfl, rfl⟩))
        go_round
        case rel => exact ⟨t, k + 1, rfl, by go_num, by omega, ht0, hrg.2, E⟩
        case measure => simp [intOf]; omega
    · have E : Hid (V = (k, acc st)) := HK.out.trans (out_end hlt)
      have HA : Hid (Calls Try.prog 19 #[.int .i64 st] w fun e w' => e = .returned (.bool (acc st)) ∧ w' = w) := acc_any st w h0 h8
      clear HK HR
      go_wp2_with (first | (go_at_call 19; refine HA.out.mono ?_; rintro e w' ⟨rfl, rfl⟩))
      go_ret2
      exact ⟨ret_pair (by rw [E.out]) (by rw [E.out]), rfl⟩

end Go.Proofs.Qxb6604268a
