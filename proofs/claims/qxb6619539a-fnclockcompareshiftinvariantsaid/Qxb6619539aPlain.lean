/-
  The plain arithmetic of two words: no Go in sight. The borrow and the carry that the laws reckon by the top bit are the borrow and the carry of the 64-bit difference and sum.
-/
import Derived.Laws.BitsAllLaws
namespace Go.Proofs.Qxb6619539a

/-- The borrow, as the Go text of sub128 reckons it. -/
def borW (x y d : Int) : Int :=
  bits BinOp.or IntKind.u64 (bits BinOp.and IntKind.u64 (bits BinOp.xor IntKind.u64 IntKind.u64.max x) y)
    (bits BinOp.and IntKind.u64 (bits BinOp.xor IntKind.u64 IntKind.u64.max (bits BinOp.xor IntKind.u64 x y)) d) / 9223372036854775808

/-- The carry, as the Go text of add128 reckons it. -/
def carW (x y s : Int) : Int :=
  bits BinOp.or IntKind.u64 (bits BinOp.and IntKind.u64 x y) (bits BinOp.andNot IntKind.u64 (bits BinOp.or IntKind.u64 x y) s) / 9223372036854775808

theorem wrap_toNat (v : BitVec 64) : IntKind.u64.wrap (v.toNat : Int) = (v.toNat : Int) := by
  rw [IntKind.wrap_u64]; have := v.isLt; omega
theorem b_and (a b : Int) : bits .and .u64 a b = ((BitVec.ofInt 64 a &&& BitVec.ofInt 64 b).toNat : Int) := wrap_toNat _
theorem b_or (a b : Int) : bits .or .u64 a b = ((BitVec.ofInt 64 a ||| BitVec.ofInt 64 b).toNat : Int) := wrap_toNat _
theorem b_xor (a b : Int) : bits .xor .u64 a b = ((BitVec.ofInt 64 a ^^^ BitVec.ofInt 64 b).toNat : Int) := wrap_toNat _
theorem b_andNot (a b : Int) : bits .andNot .u64 a b = ((BitVec.ofInt 64 a &&& ~~~BitVec.ofInt 64 b).toNat : Int) := wrap_toNat _
theorem of_toNat (v : BitVec 64) : BitVec.ofInt 64 (v.toNat : Int) = v := by
  simp
theorem of_max : BitVec.ofInt 64 IntKind.u64.max = BitVec.allOnes 64 := by decide
theorem top (v : BitVec 64) : (v.toNat : Int) / 9223372036854775808 = if v.msb = true then 1 else 0 := by
  rw [BitVec.msb_eq_decide]
  have := v.isLt
  simp only [decide_eq_true_eq]
  split <;> omega
theorem msb_of (a : Int) (h0 : 0 ≤ a) (h1 : a < 18446744073709551616) : (BitVec.ofInt 64 a).msb = decide (9223372036854775808 ≤ a) := by
  obtain ⟨n, rfl⟩ := Int.eq_ofNat_of_zero_le h0
  rw [BitVec.msb_eq_decide, ofInt_u64 n (by omega)]
  rw [decide_eq_decide]
  omega

theorem borW_is (x y b d : Int) (x0 : 0 ≤ x) (x1 : x < 18446744073709551616) (y0 : 0 ≤ y) (y1 : y < 18446744073709551616) (b0 : 0 ≤ b) (b1 : b ≤ 1)
    (hd : d = (x - y - b) % 18446744073709551616) : borW x y d = if x < y + b then 1 else 0 := by
  have d0 : 0 ≤ d := by omega
  have d1 : d < 18446744073709551616 := by omega
  unfold borW
  simp only [b_and, b_or, b_xor, of_toNat, of_max, top, BitVec.allOnes_xor, BitVec.msb_or, BitVec.msb_and, BitVec.msb_xor, BitVec.msb_not, msb_of x x0 x1, msb_of y y0 y1, msb_of d d0 d1]
  by_cases p : 9223372036854775808 ≤ x <;> by_cases q : 9223372036854775808 ≤ y <;> by_cases r : 9223372036854775808 ≤ d <;> by_cases s : x < y + b <;> simp [p, q, r, s] <;> omega

theorem carW_is (x y c s : Int) (x0 : 0 ≤ x) (x1 : x < 18446744073709551616) (y0 : 0 ≤ y) (y1 : y < 18446744073709551616) (c0 : 0 ≤ c) (c1 : c ≤ 1)
    (hs : s = (x + y + c) % 18446744073709551616) : carW x y s = if 18446744073709551616 ≤ x + y + c then 1 else 0 := by
  have s0 : 0 ≤ s := by omega
  have s1 : s < 18446744073709551616 := by omega
  unfold carW
  simp only [b_and, b_or, b_andNot, of_toNat, top, BitVec.msb_or, BitVec.msb_and, BitVec.msb_not, msb_of x x0 x1, msb_of y y0 y1, msb_of s s0 s1]
  by_cases p : 9223372036854775808 ≤ x <;> by_cases q : 9223372036854775808 ≤ y <;> by_cases r : 9223372036854775808 ≤ s <;> by_cases t : 18446744073709551616 ≤ x + y + c <;> simp [p, q, r, t] <;> omega

/-! ### What sub128 and add128 answer, as their Go text reckons it -/
def sub_lo (xl yl : Int) : Int := IntKind.u64.wrap (xl - yl)
def sub_b (xl yl : Int) : Int := borW xl yl (sub_lo xl yl)
def sub_hi (xh xl yh yl : Int) : Int := IntKind.u64.wrap (IntKind.u64.wrap (xh - yh) - sub_b xl yl)
def sub_bo (xh xl yh yl : Int) : Int := borW xh yh (sub_hi xh xl yh yl)

/-- A word of 64 bits. -/
def Word (x : Int) : Prop := 0 ≤ x ∧ x < 18446744073709551616

/-- The sign of the difference of two pairs of words, the first word the higher. -/
def cmpv (ct cr dt dr : Int) : Int := if ct < dt then -1 else if dt < ct then 1 else if cr < dr then -1 else if dr < cr then 1 else 0

theorem sub_lo_is (xl yl : Int) : sub_lo xl yl = (xl - yl) % 18446744073709551616 := by unfold sub_lo; rw [IntKind.wrap_u64]
theorem sub_b_is (xl yl : Int) (h1 : Word xl) (h2 : Word yl) : sub_b xl yl = if xl < yl then 1 else 0 := by
  obtain ⟨a, b⟩ := h1; obtain ⟨c, d⟩ := h2
  have h := borW_is xl yl 0 (sub_lo xl yl) a b c d (by omega) (by omega) (by rw [sub_lo_is]; omega)
  unfold sub_b
  rw [h, Int.add_zero]
theorem sub_b_01 (xl yl : Int) (h1 : Word xl) (h2 : Word yl) : 0 ≤ sub_b xl yl ∧ sub_b xl yl ≤ 1 := by
  rw [sub_b_is xl yl h1 h2]; split <;> omega
theorem sub_hi_is (xh xl yh yl : Int) : sub_hi xh xl yh yl = (xh - yh - sub_b xl yl) % 18446744073709551616 := by
  unfold sub_hi; rw [IntKind.wrap_u64, IntKind.wrap_u64]; omega
theorem sub_bo_is (xh xl yh yl : Int) (h1 : Word xh) (h2 : Word xl) (h3 : Word yh) (h4 : Word yl) :
    sub_bo xh xl yh yl = if xh < yh + sub_b xl yl then 1 else 0 := by
  have hb := sub_b_01 xl yl h2 h4
  exact borW_is xh yh (sub_b xl yl) (sub_hi xh xl yh yl) h1.1 h1.2 h3.1 h3.2 hb.1 hb.2 (sub_hi_is xh xl yh yl)

/-- Below: the borrow is 1. -/
theorem sub_below (xh xl yh yl : Int) (h1 : Word xh) (h2 : Word xl) (h3 : Word yh) (h4 : Word yl) (h : cmpv xh xl yh yl = -1) : sub_bo xh xl yh yl = 1 := by
  rw [sub_bo_is xh xl yh yl h1 h2 h3 h4, sub_b_is xl yl h2 h4]
  unfold cmpv at h
  split at h <;> split <;> split <;> first | rfl | omega | (split at h <;> first | omega | (split at h <;> first | omega | (split at h <;> omega)))
/-- Equal: nothing is left, nothing is borrowed. -/
theorem sub_equal (xh xl : Int) (h1 : Word xh) (h2 : Word xl) : sub_hi xh xl xh xl = 0 ∧ sub_lo xl xl = 0 ∧ sub_bo xh xl xh xl = 0 := by
  rw [sub_bo_is xh xl xh xl h1 h2 h1 h2, sub_hi_is, sub_lo_is, sub_b_is xl xl h2 h2]
  simp
/-- Above: nothing is borrowed, something is left. -/
theorem sub_above (xh xl yh yl : Int) (h1 : Word xh) (h2 : Word xl) (h3 : Word yh) (h4 : Word yl) (h : cmpv xh xl yh yl = 1) :
    sub_bo xh xl yh yl = 0 ∧ (sub_hi xh xl yh yl = 0 → sub_lo xl yl ≠ 0) := by
  obtain ⟨_, _⟩ := h1; obtain ⟨_, _⟩ := h2; obtain ⟨_, _⟩ := h3; obtain ⟨_, _⟩ := h4
  have hc : yh < xh ∨ (xh = yh ∧ yl < xl) := by
    unfold cmpv at h
    split at h
    · omega
    · split at h
      · omega
      · split at h
        · omega
        · split at h <;> omega
  rw [sub_bo_is xh xl yh yl ⟨‹_›, ‹_›⟩ ⟨‹_›, ‹_›⟩ ⟨‹_›, ‹_›⟩ ⟨‹_›, ‹_›⟩, sub_hi_is, sub_lo_is, sub_b_is xl yl ⟨‹_›, ‹_›⟩ ⟨‹_›, ‹_›⟩]
  by_cases q : xl < yl
  · simp only [if_pos q]
    have e : ¬ xh < yh + 1 := by omega
    simp only [if_neg e, true_and]
    omega
  · simp only [if_neg q]
    have e : ¬ xh < yh + 0 := by omega
    simp only [if_neg e, true_and]
    omega
theorem cmpv_three (ct cr dt dr : Int) : cmpv ct cr dt dr = -1 ∨ cmpv ct cr dt dr = 1 ∨ (ct = dt ∧ cr = dr) := by
  unfold cmpv
  split
  · exact Or.inl rfl
  · split
    · exact Or.inr (Or.inl rfl)
    · split
      · exact Or.inl rfl
      · split
        · exact Or.inr (Or.inl rfl)
        · exact Or.inr (Or.inr ⟨by omega, by omega⟩)
theorem cmpv_neg (ct cr dt dr : Int) : cmpv dt dr ct cr = - cmpv ct cr dt dr := by
  unfold cmpv
  by_cases p : ct < dt <;> by_cases q : dt < ct <;> by_cases r : cr < dr <;> by_cases s : dr < cr <;> simp [p, q, r, s] <;> omega
theorem cmpv_self (ct cr : Int) : cmpv ct cr ct cr = 0 := by unfold cmpv; simp

end Go.Proofs.Qxb6619539a
