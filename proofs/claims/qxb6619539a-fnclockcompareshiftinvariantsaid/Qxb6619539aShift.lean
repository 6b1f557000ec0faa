/-
  The sum of two words and its carry, and what a shift does to the order: plain arithmetic; and the contract of add128.
-/
import Derived.Test.Qxb6619539aRows
import Derived.Test.Qxb6619539aCalls
import Derived.WalkKit
import Derived.WalkSpells
import Derived.RowKit3
namespace Go.Proofs.Qxb6619539a
open Go.RowKit

def add_lo (xl yl : Int) : Int := IntKind.u64.wrap (xl + yl)
def add_c (xl yl : Int) : Int := carW xl yl (add_lo xl yl)
def add_hi (xh xl yh yl : Int) : Int := IntKind.u64.wrap (IntKind.u64.wrap (xh + yh) + add_c xl yl)
def add_co (xh xl yh yl : Int) : Int := carW xh yh (add_hi xh xl yh yl)

theorem add_lo_is (xl yl : Int) : add_lo xl yl = (xl + yl) % 18446744073709551616 := by unfold add_lo; rw [IntKind.wrap_u64]
theorem add_c_is (xl yl : Int) (h1 : Word xl) (h2 : Word yl) : add_c xl yl = if 18446744073709551616 ≤ xl + yl then 1 else 0 := by
  obtain ⟨a, b⟩ := h1; obtain ⟨c, d⟩ := h2
  have h := carW_is xl yl 0 (add_lo xl yl) a b c d (by omega) (by omega) (by rw [add_lo_is]; omega)
  unfold add_c
  rw [h, Int.add_zero]
theorem add_c_01 (xl yl : Int) (h1 : Word xl) (h2 : Word yl) : 0 ≤ add_c xl yl ∧ add_c xl yl ≤ 1 := by
  rw [add_c_is xl yl h1 h2]; split <;> omega
theorem add_hi_is (xh xl yh yl : Int) : add_hi xh xl yh yl = (xh + yh + add_c xl yl) % 18446744073709551616 := by
  unfold add_hi; rw [IntKind.wrap_u64, IntKind.wrap_u64]; omega
theorem add_co_is (xh xl yh yl : Int) (h1 : Word xh) (h2 : Word xl) (h3 : Word yh) (h4 : Word yl) :
    add_co xh xl yh yl = if 18446744073709551616 ≤ xh + yh + add_c xl yl then 1 else 0 := by
  have hb := add_c_01 xl yl h2 h4
  exact carW_is xh yh (add_c xl yl) (add_hi xh xl yh yl) h1.1 h1.2 h3.1 h3.2 hb.1 hb.2 (add_hi_is xh xl yh yl)
/-- Where nothing is carried out of the high word, the sum's two words are the sum. -/
theorem add_sum (xh xl yh yl : Int) (h1 : Word xh) (h2 : Word xl) (h3 : Word yh) (h4 : Word yl) (h : add_co xh xl yh yl = 0) :
    add_hi xh xl yh yl * 18446744073709551616 + add_lo xl yl = (xh + yh) * 18446744073709551616 + (xl + yl) ∧ Word (add_hi xh xl yh yl) ∧ Word (add_lo xl yl) := by
  rw [add_co_is xh xl yh yl h1 h2 h3 h4] at h
  rw [add_hi_is, add_lo_is]
  rw [add_c_is xl yl h2 h4] at h ⊢
  obtain ⟨_, _⟩ := h1; obtain ⟨_, _⟩ := h2; obtain ⟨_, _⟩ := h3; obtain ⟨_, _⟩ := h4
  unfold Word
  by_cases q : 18446744073709551616 ≤ xl + yl
  · simp only [if_pos q] at h ⊢
    by_cases r : 18446744073709551616 ≤ xh + yh + 1
    · simp only [if_pos r] at h; omega
    · omega
  · simp only [if_neg q] at h ⊢
    by_cases r : 18446744073709551616 ≤ xh + yh + 0
    · simp only [if_pos r] at h; omega
    · omega

/-- The order of two pairs of words is the order of the numbers that they make. -/
theorem cmpv_num (ct cr dt dr : Int) (h2 : Word cr) (h4 : Word dr) :
    cmpv ct cr dt dr = if ct * 18446744073709551616 + cr < dt * 18446744073709551616 + dr then -1 else if dt * 18446744073709551616 + dr < ct * 18446744073709551616 + cr then 1 else 0 := by
  obtain ⟨_, _⟩ := h2; obtain ⟨_, _⟩ := h4
  unfold cmpv
  by_cases p : ct < dt
  · rw [if_pos p, if_pos (by omega)]
  · by_cases q : dt < ct
    · rw [if_neg p, if_pos q, if_neg (by omega), if_pos (by omega)]
    · obtain rfl : ct = dt := by omega
      rw [if_neg p, if_neg p]
      by_cases r : cr < dr
      · rw [if_pos r, if_pos (by omega)]
      · by_cases s : dr < cr
        · rw [if_neg r, if_pos s, if_neg (by omega), if_pos (by omega)]
        · rw [if_neg r, if_neg s, if_neg (by omega), if_neg (by omega)]

theorem shift_same (ct cr dt dr kt kr : Int) (h1 : Word ct) (h2 : Word cr) (h3 : Word dt) (h4 : Word dr) (h5 : Word kt) (h6 : Word kr)
    (hc : add_co ct cr kt kr = 0) (hd : add_co dt dr kt kr = 0) :
    cmpv (add_hi ct cr kt kr) (add_lo cr kr) (add_hi dt dr kt kr) (add_lo dr kr) = cmpv ct cr dt dr := by
  obtain ⟨e1, _, i1⟩ := add_sum ct cr kt kr h1 h2 h5 h6 hc
  obtain ⟨e2, _, i2⟩ := add_sum dt dr kt kr h3 h4 h5 h6 hd
  rw [cmpv_num _ _ _ _ i1 i2, cmpv_num _ _ _ _ h2 h4, e1, e2]
  by_cases p : ct * 18446744073709551616 + cr < dt * 18446744073709551616 + dr
  · rw [if_pos p, if_pos (by omega)]
  · by_cases q : dt * 18446744073709551616 + dr < ct * 18446744073709551616 + cr
    · rw [if_neg p, if_pos q, if_neg (by omega), if_pos (by omega)]
    · rw [if_neg p, if_neg q, if_neg (by omega), if_neg (by omega)]

theorem shift_up (ct cr kt kr : Int) (h1 : Word ct) (h2 : Word cr) (h5 : Word kt) (h6 : Word kr)
    (hc : add_co ct cr kt kr = 0) (hk : kt ≠ 0 ∨ kr ≠ 0) : cmpv ct cr (add_hi ct cr kt kr) (add_lo cr kr) = -1 := by
  obtain ⟨e1, _, i1⟩ := add_sum ct cr kt kr h1 h2 h5 h6 hc
  rw [cmpv_num _ _ _ _ h2 i1, e1]
  obtain ⟨_, _⟩ := h5; obtain ⟨_, _⟩ := h6
  rw [if_pos (by omega)]
theorem shift_none (ct cr : Int) (h1 : Word ct) (h2 : Word cr) : add_hi ct cr 0 0 = ct ∧ add_lo cr 0 = cr := by
  obtain ⟨_, _⟩ := h1
  have h := add_c_is cr 0 h2 ⟨by omega, by omega⟩
  obtain ⟨_, _⟩ := h2
  rw [if_neg (by omega)] at h
  rw [add_hi_is, add_lo_is, h]
  omega

set_option maxHeartbeats 400000 in
theorem add128_any (xh xl yh yl : Int) (w : World) :
    Calls Try.prog 19 #[.int .u64 xh, .int .u64 xl, .int .u64 yh, .int .u64 yl] w fun e w' =>
      e = .returned (.tuple #[.int .u64 (add_hi xh xl yh yl), .int .u64 (add_lo xl yl), .int .u64 (add_co xh xl yh yl)]) ∧ w' = w := by
  go_enter Try.func19, Try.ntmps19
  go_wp2
  go_ret3
  exact ⟨rfl, rfl⟩
end Go.Proofs.Qxb6619539a
