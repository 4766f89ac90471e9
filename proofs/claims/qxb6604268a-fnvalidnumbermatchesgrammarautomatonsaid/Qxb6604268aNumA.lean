/-
  Seat b6604268a: skipDigits.
-/
import Derived.Test.Qxb6604268aJsonA
import Derived.Test.Qxb6604268aNumPlain
import Derived.Deep.DeepCutAuto
namespace Go.Proofs.Qxb6604268a
open Go.RowKit

set_option maxHeartbeats 1000000 in
theorem skip_any (a : Option Addr) (n cap i : Nat) (D : Nat → Int) (w : World) (hn : n ≤ 1048576) (hi : i ≤ n) (hr : ByteRow w a n D) :
    Calls Try.prog 20 #[.slice a n cap, .int .i64 i] w fun e w' => e = .returned (.int .i64 (skip D n i)) ∧ w' = w := by
  go_enter Try.func20, Try.ntmps20
  go_wp2
  go_loop [1] (fun v => ∃ k : Nat, i ≤ k ∧ k ≤ n ∧ v = .int .i64 k ∧ Hid (skip D n k = skip D n i)) (fun v => n - (intOf v).toNat)
  case atStart => exact ⟨i, Nat.le_refl _, hi, rfl, rfl⟩
  case round =>
    obtain ⟨k, hik, hk, rfl, HK⟩ := hrel
    by_cases hlt : k < n
    · obtain ⟨b, off, rfl, hl, hc, hd⟩ := hr k hlt
      have HD : Hid (dig (D k) = true ↔ 48 ≤ D k ∧ D k ≤ 57) := dig_iff (D k)
      have HS : Hid (dig (D k) = true → skip D n k = skip D n (k + 1)) := skip_step hlt
      have HT : Hid (¬ (k < n ∧ dig (D k) = true) → skip D n k = k) := skip_stop
      clear hr
      generalize D k = c at hc hd HD HS HT
      by_cases h1 : 48 ≤ c
      · by_cases h2 : c ≤ 57
        · go_wp2
          go_round
          case rel => exact ⟨k + 1, by omega, by omega, by go_num, (HS.out (HD.out.2 ⟨h1, h2⟩)).symm.trans HK.out⟩
          case measure => simp [intOf]; omega
        · go_wp2
          go_ret
          have e := HT.out (fun h => by have := HD.out.1 h.2; omega)
          exact ⟨by rw [← HK.out, e]; rfl, rfl⟩
      · go_wp2
        go_ret
        have e := HT.out (fun h => by have := HD.out.1 h.2; omega)
        exact ⟨by rw [← HK.out, e]; rfl, rfl⟩
    · have e : skip D n k = k := skip_stop (fun h => hlt h.1)
      have HE : Hid (skip D n k = k) := e
      clear e
      go_wp2
      go_ret
      exact ⟨by rw [← HK.out, HE.out]; rfl, rfl⟩

end Go.Proofs.Qxb6604268a
