/-
  Seat b6604251a: the law's walk.
-/
import Derived.Test.Qxb6604251aLowE
namespace Go.Proofs.Qxb6604251a
open Go.RowKit Go.Maps Go.WideMaps

set_option maxRecDepth 100000 in
set_option maxHeartbeats 3200000 in
theorem law_any (own : Int) (a0 a1 a2 : Option Addr) (n0 c0 n1 c1 n2 c2 : Nat) (S A : Nat → ByteArray) (T : Nat → Bool) (m : Value) (F : ByteArray → Int) (Ok : ByteArray → Bool) (L : Int) (w : World)
    (m0 : n0 ≤ maxLen) (m1 : n1 ≤ maxLen) (hS : StrRow w a0 n0 S) (hA : StrRow w a1 n1 A) (hT : BoolRow w a2 n2 T) (hL : Looks w.heap.size w m F Ok L) :
    Calls Try.prog 3 #[.int .u64 own, .slice a0 n0 c0, .slice a1 n1 c1, .slice a2 n2 c2, m] w fun e w' => e = .returned (.bool true) ∧ Below w.heap.size w w' := by
  have t0 := text_any a0 n0 c0 S w m0 hS
  have t1 := text_any a1 n1 c1 A w m1 hA
  have hlen := fun ty => hL.len w (Below.refl _ _) ty
  have HS : Hid (StrRow w a0 n0 S) := hS
  have HA : Hid (StrRow w a1 n1 A) := hA
  have HT : Hid (BoolRow w a2 n2 T) := hT
  have HL : Hid (Looks w.heap.size w m F Ok L) := hL
  have H0 : Hid (Calls Try.prog 4 #[.slice a0 n0 c0] w fun e w' => ∃ z, e = .returned (.int .i64 z) ∧ w = w') := t0
  have H1 : Hid (Calls Try.prog 4 #[.slice a1 n1 c1] w fun e w' => ∃ z, e = .returned (.int .i64 z) ∧ w = w') := t1
  clear hS hA hT hL t0 t1
  go_enter Try.func3, Try.ntmps3
  go_wp2_with fail
  refine H0.out.mono ?_
  rintro e w' ⟨z0, rfl, rfl⟩
  go_wp2_with fail
  refine H1.out.mono ?_
  rintro e w' ⟨z1, rfl, rfl⟩
  clear H0 H1
  go_wp2_with fail
  all_goals first
    | (go_ret; exact ⟨rfl, Below.refl _ _⟩)
    | skip
  have h10 : n1 = n0 := by omega
  have h20 : n2 = n0 := by
    have h : ((n2 : Int) != (n0 : Int)) = false := by assumption
    simp at h
    omega
  have hn : n0 ≤ 65536 := by omega
  clear hlen
  subst h10
  subst h20
  refine (members_any _ _ _ _ _ _ _ S A T _ hn HS.out HA.out HT.out).mono ?_
  rintro e w1 ⟨g, cap, rfl, hM, hb1⟩
  have hL1 := HL.out.later hb1
  go_wp2_with fail
  refine (low_any _ _ _ _ _ S A T _ F Ok L _ hn hM hb1.size hL1).mono ?_
  rintro e w2 ⟨rfl, hb2⟩
  have hM2 := hM.later hb2
  have hL2 := hL1.later (hb2.mono hb1.size)
  have hbe := hb1.trans (hb2.mono hb1.size)
  have hg : ∀ i, i < n2 → fmtOf F Ok (S i) = gf (F (S i)) := fun i hi => fmtOf_gf F Ok (S i) (hL2.pos _ (hM2.2 i hi).2.2.2) (hL2.no _ (hM2.2 i hi).2.2.2)
  have r1 := low_own F Ok S own n2
  have R2 : Hid (∀ i, i < n2 → low F Ok S own n2 ≤ gf (F (S i))) := fun i hi => by rw [← hg i hi]; exact low_le F Ok S own n2 i hi
  have R3 : Hid (att own (low F Ok S own n2) (fun i => gf (F (S i))) n2 = true) := att_low F Ok S own _ n2 hg
  have HM2 : Hid (MemRow w2 g n2 S A T) := hM2
  have HL2 : Hid (Looks w.heap.size w2 m F Ok L) := hL2
  clear hg hM hM2 hL1 hL2 hb1 hb2 HS HA HT HL
  generalize low F Ok S own n2 = got at r1 R2 R3 ⊢
  go_wp2
  go_loop [13, 14] (fun t i => ∃ k : Nat, k ≤ n2 ∧ i = .int .i64 k ∧ t = .bool (att own got (fun i => gf (F (S i))) k)) (fun _ i => n2 - (intOf i).toNat)
  case atStart => exact ⟨0, Nat.zero_le _, rfl, rfl⟩
  case round =>
    obtain ⟨k, hk, rfl, rfl⟩ := hrel
    by_cases hlt : k < n2
    · obtain ⟨c0', c1', c2', hs⟩ := HM2.out.2 k hlt
      have hlk := HL2.out.one w2 (Below.refl _ _) (S k) hs
      have hgk := R2.out k hlt
      by_cases hz : F (S k) = 0
      · have hg1 : got ≤ 1 := by simpa [gf, hz] using hgk
        clear hgk
        rw [hz] at hlk
        by_cases he : got = 1
        · subst he
          have HA1 : Hid (att own 1 (fun i => gf (F (S i))) (k + 1) = true) := by simp [Hid, att, gf, hz]
          clear hz
          go_wp2
          go_round
          case rel => exact ⟨k + 1, by omega, by go_num, by rw [HA1.out]⟩
          case measure => simp [intOf]; omega
        · have HA1 : Hid (att own got (fun i => gf (F (S i))) (k + 1) = att own got (fun i => gf (F (S i))) k) := by simp [Hid, att, gf, hz, he]
          clear hz
          go_wp2
          go_round
          case rel => exact ⟨k + 1, by omega, by go_num, by rw [HA1.out]⟩
          case measure => simp [intOf]; omega
      · have hg1 : got ≤ F (S k) := by simpa [gf, hz] using hgk
        clear hgk
        have HB1 : Hid (att own got (fun i => gf (F (S i))) (k + 1) = if got == F (S k) then true else att own got (fun i => gf (F (S i))) k) := by simp [Hid, att, gf, hz]
        generalize F (S k) = f at hlk hz hg1 HB1
        by_cases he : got = f
        · subst he
          have HA1 : Hid (att own got (fun i => gf (F (S i))) (k + 1) = true) := by simpa [Hid] using HB1
          clear HB1
          go_wp2
          go_round
          case rel => exact ⟨k + 1, by omega, by go_num, by rw [HA1.out]⟩
          case measure => simp [intOf]; omega
        · have HA1 : Hid (att own got (fun i => gf (F (S i))) (k + 1) = att own got (fun i => gf (F (S i))) k) := by simpa [Hid, he] using HB1
          clear HB1
          go_wp2
          go_round
          case rel => exact ⟨k + 1, by omega, by go_num, by rw [HA1.out]⟩
          case measure => simp [intOf]; omega
    · obtain rfl : k = n2 := by omega
      go_wp2
      go_ret
      exact ⟨by rw [R3.out]; rfl, hbe⟩

end Go.Proofs.Qxb6604251a
