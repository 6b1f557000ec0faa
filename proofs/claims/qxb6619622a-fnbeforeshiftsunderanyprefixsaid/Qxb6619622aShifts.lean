/-
  FnBeforeShiftsUnderAnyPrefix: the plain law (a text behind another), and the walks, one for each way through the tests.
-/
import Derived.Test.Qxb6619622aRows
import Derived.Test.Qxb6619622aBefore
import Derived.WalkKit
import Derived.WalkSpells
import Derived.RowKit3
namespace Go.Proofs.Qxb6619622a
open Go.RowKit

/-! ### The plain law -/
theorem D_behind (p t : ByteArray) (j : Nat) : D (p ++ t) (p.size + j) = D t j := by
  unfold D
  by_cases h : j < t.size
  · have h' : p.size + j < (p ++ t).size := by rw [ByteArray.size_append]; omega
    rw [dif_pos h', dif_pos h, ByteArray.getElem_append_right (Nat.le_add_right _ _)]
    simp
  · have h' : ¬ p.size + j < (p ++ t).size := by rw [ByteArray.size_append]; omega
    rw [dif_neg h', dif_neg h]
theorem S_behind (p t : ByteArray) (j : Nat) : S (p ++ t) (p.size + j) = S t j := by
  unfold S
  by_cases h : j < t.size
  · have h' : p.size + j < (p ++ t).size := by rw [ByteArray.size_append]; omega
    rw [dif_pos h', dif_pos h, ByteArray.getElem_append_right (Nat.le_add_right _ _)]
    simp
  · have h' : ¬ p.size + j < (p ++ t).size := by rw [ByteArray.size_append]; omega
    rw [dif_neg h', dif_neg h]
theorem bf_any (s : ByteArray) (k : Nat) : (bf s k = (k : Int) - 1 ∧ 1 ≤ k) ∨ (bf s k = (k : Int) - 2 ∧ 2 ≤ k) ∨ bf s k = -1 := by
  unfold bf
  split
  · next h => exact Or.inl ⟨rfl, h.1⟩
  · split
    · next h => exact Or.inr (Or.inl ⟨rfl, h.1⟩)
    · exact Or.inr (Or.inr rfl)
/-- A step back that stays in the text is the same step with another text ahead. -/
theorem bf_behind (p t : ByteArray) (k : Nat) (h : bf t k ≠ -1) : bf t k < (k : Int) ∧ 0 ≤ bf t k ∧ bf (p ++ t) (p.size + k) = bf t k + (p.size : Int) := by
  unfold bf at h ⊢
  by_cases a : 1 ≤ k ∧ D t (k - 1) = true
  · have e : D (p ++ t) (p.size + k - 1) = true := by
      rw [show p.size + k - 1 = p.size + (k - 1) from by omega, D_behind]; exact a.2
    rw [if_pos a, if_pos ⟨by omega, e⟩]
    omega
  · rw [if_neg a] at h ⊢
    by_cases b : 2 ≤ k ∧ S t (k - 1) = true ∧ D t (k - 2) = true
    · have e0 : ¬ (1 ≤ p.size + k ∧ D (p ++ t) (p.size + k - 1) = true) := by
        rintro ⟨_, x⟩
        rw [show p.size + k - 1 = p.size + (k - 1) from by omega, D_behind] at x
        exact a ⟨by omega, x⟩
      have e1 : S (p ++ t) (p.size + k - 1) = true := by
        rw [show p.size + k - 1 = p.size + (k - 1) from by omega, S_behind]; exact b.2.1
      have e2 : D (p ++ t) (p.size + k - 2) = true := by
        rw [show p.size + k - 2 = p.size + (k - 2) from by omega, D_behind]; exact b.2.2
      rw [if_pos b, if_neg e0, if_pos ⟨by omega, e1, e2⟩]
      omega
    · rw [if_neg b] at h
      exact absurd rfl h
/-- Where the text alone has no step back, a step back leads into what stands ahead, at most two bytes. -/
theorem bf_into (p t : ByteArray) (k : Nat) (h : bf t k = -1) :
    bf (p ++ t) (p.size + k) = -1 ∨ (bf (p ++ t) (p.size + k) ≠ -1 ∧ bf (p ++ t) (p.size + k) < (p.size : Int) ∧ (p.size : Int) + (k : Int) - 2 ≤ bf (p ++ t) (p.size + k)) := by
  unfold bf at h
  by_cases a : 1 ≤ k ∧ D t (k - 1) = true
  · rw [if_pos a] at h; omega
  · rw [if_neg a] at h
    by_cases b : 2 ≤ k ∧ S t (k - 1) = true ∧ D t (k - 2) = true
    · rw [if_pos b] at h; omega
    · unfold bf
      by_cases c : 1 ≤ p.size + k ∧ D (p ++ t) (p.size + k - 1) = true
      · rw [if_pos c]
        have hk : k = 0 := by
          by_cases z : k = 0
          · exact z
          · have x := c.2
            rw [show p.size + k - 1 = p.size + (k - 1) from by omega, D_behind] at x
            exact absurd ⟨by omega, x⟩ a
        refine Or.inr ⟨by omega, by omega, by omega⟩
      · rw [if_neg c]
        by_cases d : 2 ≤ p.size + k ∧ S (p ++ t) (p.size + k - 1) = true ∧ D (p ++ t) (p.size + k - 2) = true
        · rw [if_pos d]
          have hk : k < 2 := by
            by_cases z : k < 2
            · exact z
            · have x := d.2.1
              have y := d.2.2
              rw [show p.size + k - 1 = p.size + (k - 1) from by omega, S_behind] at x
              rw [show p.size + k - 2 = p.size + (k - 2) from by omega, D_behind] at y
              exact absurd ⟨by omega, x, y⟩ b
          refine Or.inr ⟨by omega, by omega, by omega⟩
        · rw [if_neg d]; exact Or.inl rfl

/-! ### The walks -/
theorem bytes_shift_yes (p t : ByteArray) (i : Int) (h : p.size + t.size ≤ 1048576) (w : World) :
    Calls Try.prog 13 #[.string p, .string t, .int .i64 i] w fun e w' => e = .returned (.bool true) ∧ w = w' := by
  go_enter Try.func13, Try.ntmps13
  go_wp2
  go_ret
  exact ⟨rfl, rfl⟩
theorem bytes_shift_no (p t : ByteArray) (i : Int) (h : 1048576 < p.size + t.size) (w : World) :
    Calls Try.prog 13 #[.string p, .string t, .int .i64 i] w fun e w' => e = .returned (.bool false) ∧ w = w' := by
  by_cases h1 : 1048576 < p.size
  · go_enter Try.func13, Try.ntmps13
    go_wp2
    go_ret
    exact ⟨rfl, rfl⟩
  · by_cases h2 : 1048576 < t.size
    · go_enter Try.func13, Try.ntmps13
      go_wp2
      go_ret
      exact ⟨rfl, rfl⟩
    · go_enter Try.func13, Try.ntmps13
      go_wp2
      go_ret
      exact ⟨rfl, rfl⟩
theorem before_sum (p t : ByteArray) (k : Nat) (h : p.size + t.size ≤ 1048576) (h1 : k < t.size) (w : World) :
    Calls Try.prog 12 #[.string (p ++ t), .int .i64 ((p.size : Int) + (k : Int))] w fun e w' => e = .returned (.int .i64 (bf (p ++ t) (p.size + k))) ∧ w = w' := by
  rw [show (p.size : Int) + (k : Int) = ((p.size + k : Nat) : Int) from by omega]
  exact before_any (p ++ t) (p.size + k) (by rw [ByteArray.size_append]; omega) (by rw [ByteArray.size_append]; omega) w

theorem shifts_long (p t : ByteArray) (i : Int) (h : 1048576 < p.size + t.size) (w : World) :
    Calls Try.prog 7 #[.string p, .string t, .int .i64 i] w fun e w' => e = .returned (.bool true) ∧ Grown w w' := by
  go_enter Try.func7, Try.ntmps7
  go_wp2_with (go_at_call 13; refine (bytes_shift_no _ _ _ h _).mono ?_; rintro e w' ⟨rfl, rfl⟩)
  go_ret
  exact ⟨rfl, Grown.refl _⟩
theorem shifts_long_p (p t : ByteArray) (i : Int) (h : p.size + t.size ≤ 1048576) (h2 : 524288 < p.size) (w : World) :
    Calls Try.prog 7 #[.string p, .string t, .int .i64 i] w fun e w' => e = .returned (.bool true) ∧ Grown w w' := by
  go_enter Try.func7, Try.ntmps7
  go_wp2_with (go_at_call 13; refine (bytes_shift_yes _ _ _ h _).mono ?_; rintro e w' ⟨rfl, rfl⟩)
  go_ret
  exact ⟨rfl, Grown.refl _⟩
theorem shifts_long_t (p t : ByteArray) (i : Int) (h : p.size + t.size ≤ 1048576) (h2 : p.size ≤ 524288) (h3 : 524288 < t.size) (w : World) :
    Calls Try.prog 7 #[.string p, .string t, .int .i64 i] w fun e w' => e = .returned (.bool true) ∧ Grown w w' := by
  go_enter Try.func7, Try.ntmps7
  go_wp2_with (go_at_call 13; refine (bytes_shift_yes _ _ _ h _).mono ?_; rintro e w' ⟨rfl, rfl⟩)
  go_ret
  exact ⟨rfl, Grown.refl _⟩
theorem shifts_neg (p t : ByteArray) (i : Int) (h : p.size + t.size ≤ 1048576) (h2 : p.size ≤ 524288) (h3 : t.size ≤ 524288) (h0 : i < 0) (w : World) :
    Calls Try.prog 7 #[.string p, .string t, .int .i64 i] w fun e w' => e = .returned (.bool true) ∧ Grown w w' := by
  go_enter Try.func7, Try.ntmps7
  go_wp2_with (go_at_call 13; refine (bytes_shift_yes _ _ _ h _).mono ?_; rintro e w' ⟨rfl, rfl⟩)
  go_ret
  exact ⟨rfl, Grown.refl _⟩
theorem shifts_past (p t : ByteArray) (i : Int) (h : p.size + t.size ≤ 1048576) (h2 : p.size ≤ 524288) (h3 : t.size ≤ 524288) (h0 : 0 ≤ i) (h1 : (t.size : Int) ≤ i) (w : World) :
    Calls Try.prog 7 #[.string p, .string t, .int .i64 i] w fun e w' => e = .returned (.bool true) ∧ Grown w w' := by
  go_enter Try.func7, Try.ntmps7
  go_wp2_with (go_at_call 13; refine (bytes_shift_yes _ _ _ h _).mono ?_; rintro e w' ⟨rfl, rfl⟩)
  go_ret
  exact ⟨rfl, Grown.refl _⟩
theorem shifts_none (p t : ByteArray) (k : Nat) (h : p.size + t.size ≤ 1048576) (h2 : p.size ≤ 524288) (h3 : t.size ≤ 524288) (h1 : k < t.size) (hd : dg (t[k].toNat : Int) = false) (w : World) :
    Calls Try.prog 7 #[.string p, .string t, .int .i64 (k : Int)] w fun e w' => e = .returned (.bool true) ∧ Grown w w' := by
  go_enter Try.func7, Try.ntmps7
  go_wp2_with (first
    | (go_at_call 13; refine (bytes_shift_yes _ _ _ h _).mono ?_; rintro e w' ⟨rfl, rfl⟩)
    | (go_at_call 11; refine (isDigitByte_any _ _).mono ?_; rintro e w' ⟨rfl, rfl⟩))
  go_ret
  exact ⟨rfl, Grown.refl _⟩

theorem shifts_stay (p t : ByteArray) (k : Nat) (h : p.size + t.size ≤ 1048576) (h2 : p.size ≤ 524288) (h3 : t.size ≤ 524288) (h1 : k < t.size) (hd : dg (t[k].toNat : Int) = true)
    (r1 : bf t k < (k : Int)) (r0 : 0 ≤ bf t k) (rs : bf (p ++ t) (p.size + k) = bf t k + (p.size : Int)) (w : World) :
    Calls Try.prog 7 #[.string p, .string t, .int .i64 (k : Int)] w fun e w' => e = .returned (.bool true) ∧ Grown w w' := by
  go_enter Try.func7, Try.ntmps7
  go_wp2_with (first
    | (go_at_call 13; refine (bytes_shift_yes _ _ _ h _).mono ?_; rintro e w' ⟨rfl, rfl⟩)
    | (go_at_call 11; refine (isDigitByte_any _ _).mono ?_; rintro e w' ⟨rfl, rfl⟩))
  refine (before_any t k h1 (by omega) _).mono ?_
  rintro e w' ⟨rfl, rfl⟩
  go_wp2_with fail
  refine (before_sum p t k h h1 _).mono ?_
  rintro e w' ⟨rfl, rfl⟩
  go_wp2_with fail
  go_ret
  exact ⟨rfl, Grown.refl _⟩
theorem shifts_begin (p t : ByteArray) (k : Nat) (h : p.size + t.size ≤ 1048576) (h2 : p.size ≤ 524288) (h3 : t.size ≤ 524288) (h1 : k < t.size) (hd : dg (t[k].toNat : Int) = true)
    (r0 : bf t k = -1) (rs : bf (p ++ t) (p.size + k) = -1) (w : World) :
    Calls Try.prog 7 #[.string p, .string t, .int .i64 (k : Int)] w fun e w' => e = .returned (.bool true) ∧ Grown w w' := by
  go_enter Try.func7, Try.ntmps7
  go_wp2_with (first
    | (go_at_call 13; refine (bytes_shift_yes _ _ _ h _).mono ?_; rintro e w' ⟨rfl, rfl⟩)
    | (go_at_call 11; refine (isDigitByte_any _ _).mono ?_; rintro e w' ⟨rfl, rfl⟩))
  refine (before_any t k h1 (by omega) _).mono ?_
  rintro e w' ⟨rfl, rfl⟩
  go_wp2_with fail
  refine (before_sum p t k h h1 _).mono ?_
  rintro e w' ⟨rfl, rfl⟩
  go_wp2_with fail
  go_ret
  exact ⟨rfl, Grown.refl _⟩
theorem shifts_into (p t : ByteArray) (k : Nat) (h : p.size + t.size ≤ 1048576) (h2 : p.size ≤ 524288) (h3 : t.size ≤ 524288) (h1 : k < t.size) (hd : dg (t[k].toNat : Int) = true)
    (r0 : bf t k = -1) (rs : (bf (p ++ t) (p.size + k) == -1) = false) (r1 : bf (p ++ t) (p.size + k) < (p.size : Int)) (r2 : (p.size : Int) + (k : Int) - 2 ≤ bf (p ++ t) (p.size + k)) (w : World) :
    Calls Try.prog 7 #[.string p, .string t, .int .i64 (k : Int)] w fun e w' => e = .returned (.bool true) ∧ Grown w w' := by
  go_enter Try.func7, Try.ntmps7
  go_wp2_with (first
    | (go_at_call 13; refine (bytes_shift_yes _ _ _ h _).mono ?_; rintro e w' ⟨rfl, rfl⟩)
    | (go_at_call 11; refine (isDigitByte_any _ _).mono ?_; rintro e w' ⟨rfl, rfl⟩))
  refine (before_any t k h1 (by omega) _).mono ?_
  rintro e w' ⟨rfl, rfl⟩
  go_wp2_with fail
  refine (before_sum p t k h h1 _).mono ?_
  rintro e w' ⟨rfl, rfl⟩
  go_wp2_with fail
  go_ret
  exact ⟨rfl, Grown.refl _⟩
end Go.Proofs.Qxb6619622a
