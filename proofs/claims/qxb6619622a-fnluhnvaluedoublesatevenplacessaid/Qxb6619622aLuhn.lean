/-
  What luhnValue and digitSum answer: the plain functions, the contracts, and the plain law that tells digits apart.
-/
import Derived.Test.Qxb6619622aRows
import Derived.WalkKit
import Derived.WalkSpells
import Derived.RowKit3
namespace Go.Proofs.Qxb6619622a
open Go.RowKit

/-- What digit c adds at place n. -/
def lv (c n : Int) : Int := if n % 2 = 1 then c - 48 else if 9 < (c - 48) * 2 then (c - 48) * 2 - 9 else (c - 48) * 2

theorem lv_bounds (c n : Int) (h0 : 48 ≤ c) (h1 : c ≤ 57) : 0 ≤ lv c n ∧ lv c n ≤ 9 := by
  unfold lv; split
  · omega
  · split <;> omega
/-- At one place the values agree modulo 10 exactly where the digits do. -/
theorem lv_apart (a b n : Int) (a0 : 48 ≤ a) (a1 : a ≤ 57) (b0 : 48 ≤ b) (b1 : b ≤ 57) : (lv a n - lv b n).tmod 10 = 0 ↔ a = b := by
  have ha := lv_bounds a n a0 a1
  have hb := lv_bounds b n b0 b1
  have e : (lv a n - lv b n).tmod 10 = 0 ↔ lv a n = lv b n := by
    constructor
    · intro h
      have := Int.tmod_add_mul_tdiv (lv a n - lv b n) 10
      omega
    · intro h; rw [h]; simp
  rw [e]
  unfold lv
  by_cases p : n % 2 = 1
  · simp only [if_pos p]; omega
  · simp only [if_neg p]
    by_cases q : 9 < (a - 48) * 2 <;> by_cases r : 9 < (b - 48) * 2
    · simp only [if_pos q, if_pos r]; omega
    · simp only [if_pos q, if_neg r]; omega
    · simp only [if_neg q, if_pos r]; omega
    · simp only [if_neg q, if_neg r]; omega

theorem ret_int {k : IntKind} {a b : Int} (h : a = b) : Ending.returned (.int k a) = .returned (.int k b) := by rw [h]

theorem luhn_any (c n : Int) (h0 : 48 ≤ c) (h1 : c ≤ 57) (n0 : 1 ≤ n) (n1 : n ≤ 9223372036854775807) (w : World) :
    Calls Try.prog 8 #[.int .u8 c, .int .i64 n] w fun e w' => e = .returned (.int .i64 (lv c n)) ∧ w = w' := by
  by_cases p : n % 2 = 1
  · have HV : Hid (lv c n = c - 48) := by unfold Hid lv; rw [if_pos p]
    have hp : (n % 2 == 1) = true := by simpa using p
    clear p
    go_enter Try.func8, Try.ntmps8
    go_wp2
    go_ret
    exact ⟨ret_int HV.out.symm, rfl⟩
  · have hp : (n % 2 == 1) = false := by simpa using p
    by_cases q : 9 < (c - 48) * 2
    · have HV : Hid (lv c n = (c - 48) * 2 - 9) := by unfold Hid lv; rw [if_neg p, if_pos q]
      clear p
      go_enter Try.func8, Try.ntmps8
      go_wp2
      go_ret
      exact ⟨ret_int HV.out.symm, rfl⟩
    · have HV : Hid (lv c n = (c - 48) * 2) := by unfold Hid lv; rw [if_neg p, if_neg q]
      clear p
      go_enter Try.func8, Try.ntmps8
      go_wp2
      go_ret
      exact ⟨ret_int HV.out.symm, rfl⟩

/-- digitSum of a number below 100: two digits. -/
theorem digitSum_any (x : Int) (h0 : 0 ≤ x) (h1 : x ≤ 99) (w : World) :
    Calls Try.prog 9 #[.int .i64 x] w fun e w' => e = .returned (.int .i64 (x % 10 + x / 10)) ∧ w = w' := by
  go_enter Try.func9, Try.ntmps9
  go_wp2
  go_loop [0, 3] (fun t s => ∃ k r : Int, 0 ≤ k ∧ k ≤ 99 ∧ 0 ≤ r ∧ r ≤ 18 ∧ r + (k % 10 + k / 10) = x % 10 + x / 10 ∧ t = .int .i64 k ∧ s = .int .i64 r) (fun t _ => (intOf t).toNat)
  case atStart => exact ⟨x, 0, h0, h1, by omega, by omega, by omega, rfl, rfl⟩
  case round =>
    obtain ⟨k, r, k0, k1, r0, r1, hk, rfl, rfl⟩ := hrel
    have HK : Hid (r + (k % 10 + k / 10) = x % 10 + x / 10) := hk
    have hr : r + k % 10 ≤ 18 := by omega
    clear hk
    by_cases hlt : 0 < k
    · go_wp2
      go_round
      case rel => exact ⟨k / 10, r + k % 10, by omega, by omega, by omega, by omega, by have := HK.out; omega, rfl, rfl⟩
      case measure => simp [intOf]; omega
    · go_wp2
      go_ret
      exact ⟨ret_int (by have := HK.out; omega), rfl⟩
end Go.Proofs.Qxb6619622a
