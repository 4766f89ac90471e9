/-
  Seat b6604315a: hex4 and its model.
-/
import Derived.Test.Qxb6604315aHexA
namespace Go.Proofs.Qxb6604315a
open Go.RowKit

/-- The value of the first k digits. -/
def val (D : Nat → Int) : Nat → Int
  | 0 => 0
  | k + 1 => val D k * 16 + dv (D k)

def Good (D : Nat → Int) (k : Nat) : Prop := ∀ j, j < k → 0 ≤ dv (D j)

theorem val_bd {D : Nat → Int} : ∀ k, Good D k → 0 ≤ val D k ∧ val D k < 16 ^ k := by
  intro k
  induction k with
  | zero => intro _; exact ⟨Int.le_refl _, by simp [val]⟩
  | succ k ih =>
    intro h
    obtain ⟨h1, h2⟩ := ih (fun j hj => h j (by omega))
    have h3 := h k (by omega)
    have h4 := (dv_range (D k)).2
    simp only [val, Int.pow_succ]
    omega

/-- What hex4 answers. -/
def Ans (D : Nat → Int) (r : Int) : Prop := (Good D 4 → r = val D 4) ∧ (∀ k, k < 4 → dv (D k) < 0 → r = -1)

/-- The first n cells behind a hold the bytes D. -/
def ByteRow (w : World) (a : Option Addr) (n : Nat) (D : Nat → Int) : Prop :=
  ∀ i, i < n → ∃ b off, a = some ⟨b, off, none⟩ ∧ b < w.heap.size ∧ w.cell? ⟨b, off + i, none⟩ = some (.int .u8 (D i)) ∧ 0 ≤ D i ∧ D i ≤ 255

theorem ret_i32 {a b : Int} (h : a = b) : Ending.returned (.int .i32 a) = .returned (.int .i32 b) := by rw [h]

theorem or4 (v d : Int) (h0 : 0 ≤ v) (h1 : v < 65536) (h2 : 0 ≤ d) (h3 : d < 16) : bits .or .i32 (v * 16) d = v * 16 + d :=
  bits_join .i32 31 (by decide) wraps_i32 4 (v * 16) d (by omega) (by omega) (by omega) h2 (by omega) (by omega)

theorem good_next {D : Nat → Int} {k : Nat} (h : Good D k) (h2 : 0 ≤ dv (D k)) : Good D (k + 1) := fun j hj => by
  by_cases e : j = k
  · rw [e]; exact h2
  · exact h j (by omega)

set_option maxHeartbeats 2000000 in
theorem hex_any (b off n cap : Nat) (D : Nat → Int) (r : Int) (w : World) (hn : 4 ≤ n) (hc : n ≤ cap) (hcap : cap ≤ 1048576) (hr : ByteRow w (some ⟨b, off, none⟩) n D) (hA : Ans D r) :
    Calls Try.prog 9 #[.slice (some ⟨b, off, none⟩) n cap] w fun e w' => e = .returned (.int .i32 r) ∧ w' = w := by
  have HA : Hid (Ans D r) := hA
  have HR : Hid (ByteRow w (some ⟨b, off, none⟩) n D) := hr
  clear hA hr
  go_enter Try.func9, Try.ntmps9
  go_wp2
  go_loop [3, 9] (fun v i => ∃ k : Nat, k ≤ 4 ∧ i = .int .i64 k ∧ v = .int .i32 (val D k) ∧ Hid (Good D k)) (fun _ i => 4 - (intOf i).toNat)
  case atStart => exact ⟨0, by omega, rfl, rfl, fun j hj => by omega⟩
  case round =>
    obtain ⟨k, hk, rfl, rfl, HG⟩ := hrel
    by_cases hlt : k < 4
    · obtain ⟨b', off', h1, _, hcell, hd0, hd1⟩ := HR.out k (by omega)
      simp only [Option.some.injEq, Addr.mk.injEq, and_true] at h1
      obtain ⟨rfl, rfl⟩ := h1
      have hv := val_bd k HG.out
      have hv1 : val D k < 65536 := by
        have h4 : k = 0 ∨ k = 1 ∨ k = 2 ∨ k = 3 := by omega
        rcases h4 with rfl | rfl | rfl | rfl <;> simp at hv <;> omega
      have hv0 := hv.1
      have HV : Hid (∀ d, dv (D k) = d → val D (k + 1) = val D k * 16 + d) := fun d h => by rw [← h]; rfl
      have HGN : Hid (0 ≤ dv (D k) → Good D (k + 1)) := good_next HG.out
      have HB : Hid (dv (D k) < 0 → r = -1) := HA.out.2 k hlt
      clear HA HR HG hv
      generalize D k = c at hcell hd0 hd1 HV HGN HB
      generalize val D k = v at hv1 hv0 HV ⊢
      by_cases c1 : 48 ≤ c ∧ c ≤ 57
      · obtain ⟨c1a, c1b⟩ := c1
        have e := dv_dec c1a c1b
        have HE : Hid (val D (k + 1) = v * 16 + (c - 48)) := HV.out _ e
        have HG2 : Hid (Good D (k + 1)) := HGN.out (by rw [e]; omega)
        have HO : Hid (bits .or .i32 (v * 16) (c - 48) = v * 16 + (c - 48)) := or4 v (c - 48) hv0 hv1 (by omega) (by omega)
        clear e HV HGN HB
        go_wp2
        go_round
        case rel => exact ⟨k + 1, by omega, by go_num, by rw [HE.out, HO.out], HG2⟩
        case measure => simp [intOf]; omega
      by_cases c2 : 97 ≤ c ∧ c ≤ 102
      · obtain ⟨c2a, c2b⟩ := c2
        have e := dv_low c2a c2b
        have HE : Hid (val D (k + 1) = v * 16 + (c - 87)) := HV.out _ e
        have HG2 : Hid (Good D (k + 1)) := HGN.out (by rw [e]; omega)
        have HO : Hid (bits .or .i32 (v * 16) (c - 87) = v * 16 + (c - 87)) := or4 v (c - 87) hv0 hv1 (by omega) (by omega)
        clear e HV HGN HB c1
        go_wp2
        go_round
        case rel => exact ⟨k + 1, by omega, by go_num, by rw [HE.out, HO.out], HG2⟩
        case measure => simp [intOf]; omega
      by_cases c3 : 65 ≤ c ∧ c ≤ 70
      · obtain ⟨c3a, c3b⟩ := c3
        have e := dv_up c3a c3b
        have HE : Hid (val D (k + 1) = v * 16 + (c - 55)) := HV.out _ e
        have HG2 : Hid (Good D (k + 1)) := HGN.out (by rw [e]; omega)
        have HO : Hid (bits .or .i32 (v * 16) (c - 55) = v * 16 + (c - 55)) := or4 v (c - 55) hv0 hv1 (by omega) (by omega)
        clear e HV HGN HB c1 c2
        go_wp2
        go_round
        case rel => exact ⟨k + 1, by omega, by go_num, by rw [HE.out, HO.out], HG2⟩
        case measure => simp [intOf]; omega
      have HE : Hid (r = -1) := HB.out (by rw [dv_no c1 c2 c3]; omega)
      have h4 : c < 48 ∨ (57 < c ∧ c < 65) ∨ (70 < c ∧ c < 97) ∨ 102 < c := by omega
      clear HV HGN HB c1 c2 c3
      rcases h4 with h | ⟨h, h'⟩ | ⟨h, h'⟩ | h
      all_goals
        go_wp2
        go_ret
        exact ⟨ret_i32 (by rw [HE.out]), rfl⟩
    · obtain rfl : 4 = k := by omega
      have HE : Hid (r = val D 4) := HA.out.1 HG.out
      clear HA HR HG
      go_wp2
      go_ret
      exact ⟨ret_i32 (by rw [HE.out]), rfl⟩

end Go.Proofs.Qxb6604315a
