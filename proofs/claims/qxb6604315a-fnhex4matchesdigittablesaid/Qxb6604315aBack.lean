/-
  Seat b6604315a: FnHex4ReadsBackFourDigits.
-/
import Derived.Test.Qxb6604315aHexB
namespace Go.Proofs.Qxb6604315a
open Go.RowKit

theorem zzhex_any (b off n cap : Nat) (D : Nat → Int) (r : Int) (w : World) (hn : 4 ≤ n) (hc : n ≤ cap) (hcap : cap ≤ 1048576) (hr : ByteRow w (some ⟨b, off, none⟩) n D) (hA : Ans D r) :
    Calls Try.prog 7 #[.slice (some ⟨b, off, none⟩) n cap] w fun e w' => e = .returned (.int .i32 r) ∧ w' = w := by
  have HC : Hid (Calls Try.prog 9 #[.slice (some ⟨b, off, none⟩) n cap] w fun e w' => e = .returned (.int .i32 r) ∧ w' = w) := hex_any b off n cap D r w hn hc hcap hr hA
  clear hr hA
  go_enter Try.func7, Try.ntmps7
  go_wp2_with fail
  refine HC.out.mono ?_
  rintro e w' ⟨rfl, rfl⟩
  go_wp2
  go_ret
  exact ⟨rfl, rfl⟩

set_option maxHeartbeats 1000000 in
theorem back_out (n : Int) (u : Bool) (w : World) (h : n < 0 ∨ 65535 < n) : Calls Try.prog 4 #[.int .i64 n, .bool u] w fun e w' => e = .returned (.bool true) ∧ Grown w w' := by
  by_cases h1 : n < 0
  · clear h
    go_enter Try.func4, Try.ntmps4
    go_wp2
    go_ret
    exact ⟨rfl, Grown.refl _⟩
  · have h2 : 65535 < n := by omega
    clear h
    go_enter Try.func4, Try.ntmps4
    go_wp2
    go_ret
    exact ⟨rfl, Grown.refl _⟩

/-- Four bytes. -/
def four (c0 c1 c2 c3 : Int) (i : Nat) : Int := if i = 0 then c0 else if i = 1 then c1 else if i = 2 then c2 else c3

theorem four_row (c0 c1 c2 c3 : Int) (w : World) (h0 : 0 ≤ c0 ∧ c0 ≤ 255) (h1 : 0 ≤ c1 ∧ c1 ≤ 255) (h2 : 0 ≤ c2 ∧ c2 ≤ 255) (h3 : 0 ≤ c3 ∧ c3 ≤ 255) :
    ByteRow (w.alloc (.cells #[.int .u8 c0, .int .u8 c1, .int .u8 c2, .int .u8 c3] 5)) (some ⟨w.heap.size, 0, none⟩) 4 (four c0 c1 c2 c3) := by
  intro i hi
  refine ⟨_, _, rfl, by simp, ?_⟩
  have h : i = 0 ∨ i = 1 ∨ i = 2 ∨ i = 3 := by omega
  rcases h with rfl | rfl | rfl | rfl
  · exact ⟨by rw [World.cell?_alloc_at _ _ _ _ rfl]; rfl, h0⟩
  · exact ⟨by rw [World.cell?_alloc_at _ _ _ _ rfl]; rfl, h1⟩
  · exact ⟨by rw [World.cell?_alloc_at _ _ _ _ rfl]; rfl, h2⟩
  · exact ⟨by rw [World.cell?_alloc_at _ _ _ _ rfl]; rfl, h3⟩

theorem four_ans {c0 c1 c2 c3 n : Int} {d0 d1 d2 d3 : Nat} (e0 : dv c0 = d0) (e1 : dv c1 = d1) (e2 : dv c2 = d2) (e3 : dv c3 = d3) (hn : n = (((d0 : Int) * 16 + d1) * 16 + d2) * 16 + d3) : Ans (four c0 c1 c2 c3) n := by
  have f0 : four c0 c1 c2 c3 0 = c0 := rfl
  have f1 : four c0 c1 c2 c3 1 = c1 := rfl
  have f2 : four c0 c1 c2 c3 2 = c2 := rfl
  have f3 : four c0 c1 c2 c3 3 = c3 := rfl
  refine ⟨fun _ => ?_, fun k hk hneg => ?_⟩
  · simp only [val, f0, f1, f2, f3, e0, e1, e2, e3]
    omega
  · have h : k = 0 ∨ k = 1 ∨ k = 2 ∨ k = 3 := by omega
    rcases h with rfl | rfl | rfl | rfl
    · rw [f0, e0] at hneg; omega
    · rw [f1, e1] at hneg; omega
    · rw [f2, e2] at hneg; omega
    · rw [f3, e3] at hneg; omega

theorem byte_bd (b : UInt8) : 0 ≤ ((b.toNat : Nat) : Int) ∧ ((b.toNat : Nat) : Int) ≤ 255 := by
  have := b.toNat_lt
  omega

theorem hide {p : Prop} (h : p) : Hid p := h
theorem unhide {p : Prop} (h : Hid p) : p := h

set_option maxHeartbeats 1000000 in
theorem back_low (n : Int) (w : World) (h0 : 0 ≤ n) (h1 : n ≤ 65535) : Calls Try.prog 4 #[.int .i64 n, .bool false] w fun e w' => e = .returned (.bool true) ∧ Grown w w' := by
  have hmk : ∀ w : World, (Instr.makeSlice 22 (.int .i64 4) (.int .i64 4)).run Try.prog w = .ok (.slice (some ⟨w.heap.size, 0, none⟩) 4 4) (w.alloc (.cells #[.int .u8 0, .int .u8 0, .int .u8 0, .int .u8 0] 5)) := fun _ => by kernel_rfl
  obtain ⟨d0, hd0⟩ : ∃ d : Nat, n / 4096 % 16 = (d : Int) := ⟨(n / 4096 % 16).toNat, by omega⟩
  obtain ⟨d1, hd1⟩ : ∃ d : Nat, n / 256 % 16 = (d : Int) := ⟨(n / 256 % 16).toNat, by omega⟩
  obtain ⟨d2, hd2⟩ : ∃ d : Nat, n / 16 % 16 = (d : Int) := ⟨(n / 16 % 16).toNat, by omega⟩
  obtain ⟨d3, hd3⟩ : ∃ d : Nat, n % 16 = (d : Int) := ⟨(n % 16).toNat, by omega⟩
  have b0 : d0 < 16 := by omega
  have b1 : d1 < 16 := by omega
  have b2 : d2 < 16 := by omega
  have b3 : d3 < 16 := by omega
  have i0 : (d0 : Int) < 16 := by omega
  have i1 : (d1 : Int) < 16 := by omega
  have i2 : (d2 : Int) < 16 := by omega
  have i3 : (d3 : Int) < 16 := by omega
  have HQ : Hid (n = (((d0 : Int) * 16 + d1) * 16 + d2) * 16 + d3) := by show n = _; omega
  have hC := zzhex_any w.heap.size 0 4 4 (four ((lowS[d0]'b0).toNat : Int) ((lowS[d1]'b1).toNat : Int) ((lowS[d2]'b2).toNat : Int) ((lowS[d3]'b3).toNat : Int)) n
    (w.alloc (.cells #[.int .u8 ((lowS[d0]'b0).toNat : Int), .int .u8 ((lowS[d1]'b1).toNat : Int), .int .u8 ((lowS[d2]'b2).toNat : Int), .int .u8 ((lowS[d3]'b3).toNat : Int)] 5)) (by omega) (by omega) (by omega)
    (four_row _ _ _ _ w (byte_bd _) (byte_bd _) (byte_bd _) (byte_bd _))
    (four_ans (dv_hit b0 (.inl (lowS_at ⟨d0, b0⟩))) (dv_hit b1 (.inl (lowS_at ⟨d1, b1⟩))) (dv_hit b2 (.inl (lowS_at ⟨d2, b2⟩))) (dv_hit b3 (.inl (lowS_at ⟨d3, b3⟩))) HQ.out)
  have HC := hide hC
  clear hC
  go_enter Try.func4, Try.ntmps4
  go_wp2_with fail
  refine (unhide HC).mono ?_
  rintro e w' ⟨rfl, rfl⟩
  go_wp2
  go_ret
  exact ⟨rfl, (Grown.refl _).alloc _ _⟩

set_option maxHeartbeats 1000000 in
theorem back_up (n : Int) (w : World) (h0 : 0 ≤ n) (h1 : n ≤ 65535) : Calls Try.prog 4 #[.int .i64 n, .bool true] w fun e w' => e = .returned (.bool true) ∧ Grown w w' := by
  have hmk : ∀ w : World, (Instr.makeSlice 22 (.int .i64 4) (.int .i64 4)).run Try.prog w = .ok (.slice (some ⟨w.heap.size, 0, none⟩) 4 4) (w.alloc (.cells #[.int .u8 0, .int .u8 0, .int .u8 0, .int .u8 0] 5)) := fun _ => by kernel_rfl
  obtain ⟨d0, hd0⟩ : ∃ d : Nat, n / 4096 % 16 = (d : Int) := ⟨(n / 4096 % 16).toNat, by omega⟩
  obtain ⟨d1, hd1⟩ : ∃ d : Nat, n / 256 % 16 = (d : Int) := ⟨(n / 256 % 16).toNat, by omega⟩
  obtain ⟨d2, hd2⟩ : ∃ d : Nat, n / 16 % 16 = (d : Int) := ⟨(n / 16 % 16).toNat, by omega⟩
  obtain ⟨d3, hd3⟩ : ∃ d : Nat, n % 16 = (d : Int) := ⟨(n % 16).toNat, by omega⟩
  have b0 : d0 < 16 := by omega
  have b1 : d1 < 16 := by omega
  have b2 : d2 < 16 := by omega
  have b3 : d3 < 16 := by omega
  have i0 : (d0 : Int) < 16 := by omega
  have i1 : (d1 : Int) < 16 := by omega
  have i2 : (d2 : Int) < 16 := by omega
  have i3 : (d3 : Int) < 16 := by omega
  have HQ : Hid (n = (((d0 : Int) * 16 + d1) * 16 + d2) * 16 + d3) := by show n = _; omega
  have hC := zzhex_any w.heap.size 0 4 4 (four ((upS[d0]'b0).toNat : Int) ((upS[d1]'b1).toNat : Int) ((upS[d2]'b2).toNat : Int) ((upS[d3]'b3).toNat : Int)) n
    (w.alloc (.cells #[.int .u8 ((upS[d0]'b0).toNat : Int), .int .u8 ((upS[d1]'b1).toNat : Int), .int .u8 ((upS[d2]'b2).toNat : Int), .int .u8 ((upS[d3]'b3).toNat : Int)] 5)) (by omega) (by omega) (by omega)
    (four_row _ _ _ _ w (byte_bd _) (byte_bd _) (byte_bd _) (byte_bd _))
    (four_ans (dv_hit b0 (.inr (upS_at ⟨d0, b0⟩))) (dv_hit b1 (.inr (upS_at ⟨d1, b1⟩))) (dv_hit b2 (.inr (upS_at ⟨d2, b2⟩))) (dv_hit b3 (.inr (upS_at ⟨d3, b3⟩))) HQ.out)
  have HC := hide hC
  clear hC
  go_enter Try.func4, Try.ntmps4
  go_wp2_with fail
  refine (unhide HC).mono ?_
  rintro e w' ⟨rfl, rfl⟩
  go_wp2
  go_ret
  exact ⟨rfl, (Grown.refl _).alloc _ _⟩

end Go.Proofs.Qxb6604315a
