/-
  The contracts of isDigit, isDigitByte, isSeparator, ZZBefore and the two size tests.
-/
import Derived.Test.Qxb6619622aRows
import Derived.Test.Qxb6619622aPlain
import Derived.WalkKit
import Derived.WalkSpells
import Derived.RowKit3
namespace Go.Proofs.Qxb6619622a
open Go.RowKit

theorem ret_i {k : IntKind} {a b : Int} (h : a = b) : Ending.returned (.int k a) = .returned (.int k b) := by rw [h]
theorem ret_b {a b : Bool} (h : a = b) : Ending.returned (.bool a) = .returned (.bool b) := by rw [h]

theorem isDigit_any (c : Int) (w : World) : Calls Try.prog 16 #[.int .u8 c] w fun e w' => e = .returned (.bool (dg c)) ∧ w = w' := by
  by_cases h : 48 ≤ c
  · go_enter Try.func16, Try.ntmps16
    go_wp2
    go_ret
    exact ⟨ret_b (by simp [dg, h]), rfl⟩
  · go_enter Try.func16, Try.ntmps16
    go_wp2
    go_ret
    exact ⟨ret_b (by simp [dg]; omega), rfl⟩
theorem isDigitByte_any (c : Int) (w : World) : Calls Try.prog 11 #[.int .u8 c] w fun e w' => e = .returned (.bool (dg c)) ∧ w = w' := by
  by_cases h : 48 ≤ c
  · go_enter Try.func11, Try.ntmps11
    go_wp2
    go_ret
    exact ⟨ret_b (by simp [dg, h]), rfl⟩
  · go_enter Try.func11, Try.ntmps11
    go_wp2
    go_ret
    exact ⟨ret_b (by simp [dg]; omega), rfl⟩
theorem isSeparator_any (c : Int) (w : World) : Calls Try.prog 17 #[.int .u8 c] w fun e w' => e = .returned (.bool (sp c)) ∧ w = w' := by
  by_cases h : (c == 32) = true
  · go_enter Try.func17, Try.ntmps17
    go_wp2
    go_ret
    exact ⟨ret_b (by simp [sp, h]), rfl⟩
  · have h : (c == 32) = false := by simpa using h
    go_enter Try.func17, Try.ntmps17
    go_wp2
    go_ret
    exact ⟨ret_b (by simp [sp, h]), rfl⟩

theorem before_any (s : ByteArray) (k : Nat) (h1 : k < s.size) (hm : s.size ≤ 9223372036854775807) (w : World) :
    Calls Try.prog 12 #[.string s, .int .i64 (k : Int)] w fun e w' => e = .returned (.int .i64 (bf s k)) ∧ w = w' := by
  by_cases h0 : k = 0
  · subst h0
    go_enter Try.func12, Try.ntmps12
    go_wp2
    go_ret
    exact ⟨ret_i (by simp [bf]), rfl⟩
  · have g0 : 1 ≤ k := by omega
    have H1 : Hid (D s (k - 1) = dg (s[k - 1].toNat : Int)) := D_at (by omega)
    have H2 : Hid (S s (k - 1) = sp (s[k - 1].toNat : Int)) := S_at (by omega)
    have H3 : Hid (2 ≤ k → D s (k - 2) = dg (s[k - 2].toNat : Int)) := fun _ => D_at (by omega)
    clear h0
    go_enter Try.func12, Try.ntmps12
    go_wp2_with (first
      | (go_at_call 16; refine (isDigit_any _ _).mono ?_; rintro e w' ⟨rfl, rfl⟩)
      | (go_at_call 17; refine (isSeparator_any _ _).mono ?_; rintro e w' ⟨rfl, rfl⟩)
      | go_in)
    all_goals go_ret
    · exact ⟨ret_i (by unfold bf; rw [H1.out, if_pos ⟨g0, by assumption⟩]), rfl⟩
    · exact ⟨ret_i (by unfold bf; rw [H1.out, H2.out, H3.out (by omega), if_neg (by simp [*]), if_pos ⟨by omega, by assumption, by assumption⟩]), rfl⟩
    · exact ⟨ret_i (by unfold bf; rw [H1.out, H2.out, H3.out (by omega), if_neg (by simp [*]), if_neg (by simp [*])]), rfl⟩
    · exact ⟨ret_i (by unfold bf; rw [H1.out, H2.out, if_neg (by simp [*]), if_neg (by simp [*])]), rfl⟩
    · exact ⟨ret_i (by unfold bf; rw [H1.out, if_neg (by simp [*]), if_neg (by omega)]), rfl⟩
theorem bytes_walks_yes (s : ByteArray) (i : Int) (h : s.size ≤ 1048576) (w : World) :
    Calls Try.prog 10 #[.string s, .int .i64 i] w fun e w' => e = .returned (.bool true) ∧ w = w' := by
  go_enter Try.func10, Try.ntmps10
  go_wp2
  go_ret
  exact ⟨rfl, rfl⟩
theorem bytes_walks_no (s : ByteArray) (i : Int) (h : 1048576 < s.size) (w : World) :
    Calls Try.prog 10 #[.string s, .int .i64 i] w fun e w' => e = .returned (.bool false) ∧ w = w' := by
  go_enter Try.func10, Try.ntmps10
  go_wp2
  go_ret
  exact ⟨rfl, rfl⟩
end Go.Proofs.Qxb6619622a
