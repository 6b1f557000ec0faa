/-
  The callees' contracts: math/bits.Sub64 and Add64 by the guide's own runs of the model's entries; cmp and ZZFixedCmp by a walk.
-/
import Derived.Test.Qxb6623265aRows
import Derived.Shelf.Spec.BitsCarry
import Derived.Laws.Externs
import Derived.Laws.BitsAllLaws
import Derived.WalkKit
import Derived.WalkSpells
import Derived.RowKit3
namespace Go.Proofs.Qxb6623265a
open Go.RowKit

/-- A word of 64 bits. -/
def Word (x : Int) : Prop := 0 ≤ x ∧ x < 18446744073709551616

/-- The sign of the difference of two pairs of words, the first word the higher. -/
def cmpv (ct cr dt dr : Int) : Int := if ct < dt then -1 else if dt < ct then 1 else if cr < dr then -1 else if dr < cr then 1 else 0

/-! ### The difference and the sum of two words, under names -/
def s_lo (x y : Int) : Int := (x - y) % 18446744073709551616
def s_b (x y : Int) : Int := if x < y then 1 else 0
def s_hi (xh xl yh yl : Int) : Int := (xh - yh - s_b xl yl) % 18446744073709551616
def s_bo (xh xl yh yl : Int) : Int := if xh < yh + s_b xl yl then 1 else 0
def a_lo (x : Int) : Int := (x + 1) % 18446744073709551616
def a_c (x : Int) : Int := (x + 1) / 18446744073709551616
def a_hi (xh xl : Int) : Int := (xh + a_c xl) % 18446744073709551616
def a_co (xh xl : Int) : Int := (xh + a_c xl) / 18446744073709551616

theorem sub64 (x y b : Int) (hx : 0 ≤ x) (hy : 0 ≤ y) (hy' : y < 18446744073709551616) (hb0 : 0 ≤ b) (hb : b ≤ 1) (w : World) : (callFunc 6 #[.int .u64 x, .int .u64 y, .int .u64 b]).run Try.prog w =
    .ok (.value (.tuple #[.int .u64 ((x - y - b) % 18446744073709551616), .int .u64 (if x < y + b then 1 else 0)])) w := by
  obtain ⟨x, rfl⟩ := Int.eq_ofNat_of_zero_le hx
  obtain ⟨y, rfl⟩ := Int.eq_ofNat_of_zero_le hy
  obtain ⟨b, rfl⟩ := Int.eq_ofNat_of_zero_le hb0
  have e1 : (((x + 18446744073709551616 - y - b) % 18446744073709551616 : Nat) : Int) = ((x : Int) - y - b) % 18446744073709551616 := by omega
  have e2 : ((if x < y + b then 1 else 0 : Nat) : Int) = if (x : Int) < y + b then 1 else 0 := by split <;> split <;> omega
  rw [← e1, ← e2]
  rw [run_callFunc_extern Try.func6 (by kernel_rfl) (by kernel_rfl) (by kernel_rfl) (e := sub64Entry) (by kernel_rfl), run_sub64 x y b (by omega)]
  rfl
theorem add64 (x y c : Int) (hx : 0 ≤ x) (hy : 0 ≤ y) (hc0 : 0 ≤ c) (hc : c ≤ 1) (w : World) : (callFunc 7 #[.int .u64 x, .int .u64 y, .int .u64 c]).run Try.prog w =
    .ok (.value (.tuple #[.int .u64 ((x + y + c) % 18446744073709551616), .int .u64 ((x + y + c) / 18446744073709551616)])) w := by
  rw [run_callFunc_extern Try.func7 (by kernel_rfl) (by kernel_rfl) (by kernel_rfl) (e := add64Entry) (by kernel_rfl), run_add64 x y c hx hy hc0 hc]
  rfl

theorem s_b_01 (x y : Int) : 0 ≤ s_b x y ∧ s_b x y ≤ 1 := by unfold s_b; split <;> omega
theorem a_c_01 (x : Int) (h : Word x) : 0 ≤ a_c x ∧ a_c x ≤ 1 := by obtain ⟨_, _⟩ := h; unfold a_c; omega

/-- The low words' difference. -/
theorem sub_low (x y : Int) (hx : Word x) (hy : Word y) (w : World) : (callFunc 6 #[.int .u64 x, .int .u64 y, .int .u64 0]).run Try.prog w = .ok (.value (.tuple #[.int .u64 (s_lo x y), .int .u64 (s_b x y)])) w := by
  have := sub64 x y 0 hx.1 hy.1 hy.2 (by omega) (by omega) w
  simp only [Int.sub_zero, Int.add_zero] at this
  exact this
/-- The high words' difference, with the low words' borrow. -/
theorem sub_high (xh xl yh yl : Int) (hx : Word xh) (hy : Word yh) (w : World) : (callFunc 6 #[.int .u64 xh, .int .u64 yh, .int .u64 (s_b xl yl)]).run Try.prog w = .ok (.value (.tuple #[.int .u64 (s_hi xh xl yh yl), .int .u64 (s_bo xh xl yh yl)])) w :=
  sub64 xh yh (s_b xl yl) hx.1 hy.1 hy.2 (s_b_01 xl yl).1 (s_b_01 xl yl).2 w
/-- One step up, the low word. -/
theorem add_low (x : Int) (hx : Word x) (w : World) : (callFunc 7 #[.int .u64 x, .int .u64 1, .int .u64 0]).run Try.prog w = .ok (.value (.tuple #[.int .u64 (a_lo x), .int .u64 (a_c x)])) w := by
  have := add64 x 1 0 hx.1 (by omega) (by omega) (by omega) w
  simp only [Int.add_zero] at this
  exact this
/-- One step up, the high word. -/
theorem add_high (xh xl : Int) (hx : Word xh) (hl : Word xl) (w : World) : (callFunc 7 #[.int .u64 xh, .int .u64 0, .int .u64 (a_c xl)]).run Try.prog w = .ok (.value (.tuple #[.int .u64 (a_hi xh xl), .int .u64 (a_co xh xl)])) w := by
  have := add64 xh 0 (a_c xl) hx.1 (by omega) (a_c_01 xl hl).1 (a_c_01 xl hl).2 w
  simp only [Int.add_zero] at this
  exact this

set_option maxHeartbeats 400000 in
theorem cmp_any (ct cr dt dr : Int) (w : World) :
    Calls Try.prog 5 #[.int .u64 ct, .int .u64 cr, .int .u64 dt, .int .u64 dr] w fun e w' =>
      e = .returned (.int .i64 (cmpv ct cr dt dr)) ∧ w' = (w.alloc (.cells #[.int .u64 ct, .int .u64 cr] 28)).alloc (.cells #[.int .u64 dt, .int .u64 dr] 28) := by
  by_cases e1 : ct < dt
  · have HV : Hid (cmpv ct cr dt dr = -1) := by unfold Hid cmpv; simp [e1]
    go_enter Try.func5, Try.ntmps5
    go_wp2
    go_ret
    exact ⟨by rw [HV.out]; rfl, rfl⟩
  · by_cases e2 : dt < ct
    · have HV : Hid (cmpv ct cr dt dr = 1) := by unfold Hid cmpv; simp [e1, e2]
      go_enter Try.func5, Try.ntmps5
      go_wp2
      go_ret
      exact ⟨by rw [HV.out]; rfl, rfl⟩
    · by_cases e3 : cr < dr
      · have HV : Hid (cmpv ct cr dt dr = -1) := by unfold Hid cmpv; simp [e1, e2, e3]
        go_enter Try.func5, Try.ntmps5
        go_wp2
        go_ret
        exact ⟨by rw [HV.out]; rfl, rfl⟩
      · by_cases e4 : dr < cr
        · have HV : Hid (cmpv ct cr dt dr = 1) := by unfold Hid cmpv; simp [e1, e2, e3, e4]
          go_enter Try.func5, Try.ntmps5
          go_wp2
          go_ret
          exact ⟨by rw [HV.out]; rfl, rfl⟩
        · have HV : Hid (cmpv ct cr dt dr = 0) := by unfold Hid cmpv; simp [e1, e2, e3, e4]
          go_enter Try.func5, Try.ntmps5
          go_wp2
          go_ret
          exact ⟨by rw [HV.out]; rfl, rfl⟩

/-! ### The plain laws -/
theorem cmpv_three (ct cr dt dr : Int) : cmpv ct cr dt dr = -1 ∨ cmpv ct cr dt dr = 1 ∨ (ct = dt ∧ cr = dr) := by
  unfold cmpv
  split
  · exact Or.inl rfl
  · split
    · exact Or.inr (Or.inl rfl)
    · split
      · exact Or.inl rfl
      · split
        · exact Or.inr (Or.inl rfl)
        · exact Or.inr (Or.inr ⟨by omega, by omega⟩)
theorem cmpv_neg (ct cr dt dr : Int) : cmpv dt dr ct cr = - cmpv ct cr dt dr := by
  unfold cmpv
  by_cases p : ct < dt <;> by_cases q : dt < ct <;> by_cases r : cr < dr <;> by_cases s : dr < cr <;> simp [p, q, r, s] <;> omega
theorem cmpv_self (ct cr : Int) : cmpv ct cr ct cr = 0 := by unfold cmpv; simp
theorem cmpv_lt (ct cr dt dr : Int) : cmpv ct cr dt dr = -1 ↔ ct < dt ∨ (ct = dt ∧ cr < dr) := by
  unfold cmpv
  by_cases p : ct < dt <;> by_cases q : dt < ct <;> by_cases r : cr < dr <;> by_cases s : dr < cr <;> simp [p, q, r, s] <;> omega
theorem cmpv_gt (ct cr dt dr : Int) : cmpv ct cr dt dr = 1 ↔ dt < ct ∨ (ct = dt ∧ dr < cr) := by
  unfold cmpv
  by_cases p : ct < dt <;> by_cases q : dt < ct <;> by_cases r : cr < dr <;> by_cases s : dr < cr <;> simp [p, q, r, s] <;> omega
end Go.Proofs.Qxb6623265a
