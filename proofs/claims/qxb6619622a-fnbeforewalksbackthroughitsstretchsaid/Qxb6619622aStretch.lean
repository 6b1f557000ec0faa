/-
  The walk of FnBeforeWalksBackThroughItsStretch: one theorem for each way through its tests; the last holds the three loops.
-/
import Derived.Test.Qxb6619622aRows
import Derived.Test.Qxb6619622aBefore
import Derived.WalkKit
import Derived.WalkSpells
import Derived.RowKit3
namespace Go.Proofs.Qxb6619622a
open Go.RowKit

theorem walks_long (s : ByteArray) (i : Int) (h : 1048576 < s.size) (w : World) :
    Calls Try.prog 6 #[.string s, .int .i64 i] w fun e w' => e = .returned (.bool true) ∧ Grown w w' := by
  go_enter Try.func6, Try.ntmps6
  go_wp2_with (go_at_call 10; refine (bytes_walks_no _ _ h _).mono ?_; rintro e w' ⟨rfl, rfl⟩)
  go_ret
  exact ⟨rfl, Grown.refl _⟩
theorem walks_neg (s : ByteArray) (i : Int) (h : s.size ≤ 1048576) (h0 : i < 0) (w : World) :
    Calls Try.prog 6 #[.string s, .int .i64 i] w fun e w' => e = .returned (.bool true) ∧ Grown w w' := by
  go_enter Try.func6, Try.ntmps6
  go_wp2_with (go_at_call 10; refine (bytes_walks_yes _ _ h _).mono ?_; rintro e w' ⟨rfl, rfl⟩)
  go_ret
  exact ⟨rfl, Grown.refl _⟩
theorem walks_past (s : ByteArray) (i : Int) (h : s.size ≤ 1048576) (h0 : 0 ≤ i) (h1 : (s.size : Int) ≤ i) (w : World) :
    Calls Try.prog 6 #[.string s, .int .i64 i] w fun e w' => e = .returned (.bool true) ∧ Grown w w' := by
  go_enter Try.func6, Try.ntmps6
  go_wp2_with (go_at_call 10; refine (bytes_walks_yes _ _ h _).mono ?_; rintro e w' ⟨rfl, rfl⟩)
  go_ret
  exact ⟨rfl, Grown.refl _⟩
theorem walks_none (s : ByteArray) (k : Nat) (h : s.size ≤ 1048576) (h1 : k < s.size) (hd : dg (s[k].toNat : Int) = false) (w : World) :
    Calls Try.prog 6 #[.string s, .int .i64 (k : Int)] w fun e w' => e = .returned (.bool true) ∧ Grown w w' := by
  go_enter Try.func6, Try.ntmps6
  go_wp2_with (first
    | (go_at_call 10; refine (bytes_walks_yes _ _ h _).mono ?_; rintro e w' ⟨rfl, rfl⟩)
    | (go_at_call 11; refine (isDigitByte_any _ _).mono ?_; rintro e w' ⟨rfl, rfl⟩))
  go_ret
  exact ⟨rfl, Grown.refl _⟩

/-! ### A step of the automaton, in the walk's own forms -/
theorem step_new {s : ByteArray} {j : Nat} (h : j < s.size) (hq : Hid (Q s j = 0)) (d : dg (s[j].toNat : Int) = true) : Hid (B s (j + 1) = (j : Int)) ∧ Hid (Q s (j + 1) = 1) :=
  ⟨B_new ((D_at h).trans d) hq.out, Q_digit ((D_at h).trans d)⟩
theorem step_digit {s : ByteArray} {j : Nat} {b q : Int} (h : j < s.size) (hb : Hid (B s j = b)) (hq : Hid (Q s j = q)) (q0 : q ≠ 0) (d : dg (s[j].toNat : Int) = true) : Hid (B s (j + 1) = b) ∧ Hid (Q s (j + 1) = 1) :=
  ⟨(B_keep (by rw [hq.out]; exact q0)).trans hb.out, Q_digit ((D_at h).trans d)⟩
theorem step_sep {s : ByteArray} {j : Nat} {b : Int} (h : j < s.size) (hb : Hid (B s j = b)) (hq : Hid (Q s j = 1)) (d : dg (s[j].toNat : Int) = false) (c : (s[j].toNat : Int) = 32 ∨ (s[j].toNat : Int) = 45) :
    Hid (B s (j + 1) = b) ∧ Hid (Q s (j + 1) = 2) :=
  ⟨(B_skip ((D_at h).trans d)).trans hb.out, Q_sep ((D_at h).trans d) ((S_at h).trans (by unfold sp; rcases c with c | c <;> rw [c] <;> rfl)) hq.out⟩
theorem step_out {s : ByteArray} {j : Nat} {b q : Int} (h : j < s.size) (hb : Hid (B s j = b)) (hq : Hid (Q s j = q)) (d : dg (s[j].toNat : Int) = false) (c : q ≠ 1 ∨ (¬ (s[j].toNat : Int) = 32 ∧ ¬ (s[j].toNat : Int) = 45)) :
    Hid (B s (j + 1) = b) ∧ Hid (Q s (j + 1) = 0) := by
  refine ⟨(B_skip ((D_at h).trans d)).trans hb.out, Q_none ((D_at h).trans d) ?_⟩
  rcases c with c | ⟨c, c'⟩
  · exact Or.inr (by rw [hq.out]; exact c)
  · exact Or.inl ((S_at h).trans (by unfold sp; simp [c, c']))

set_option maxHeartbeats 2000000 in
theorem walks_digit (s : ByteArray) (k : Nat) (h : s.size ≤ 1048576) (h1 : k < s.size) (hd : dg (s[k].toNat : Int) = true) (w : World) :
    Calls Try.prog 6 #[.string s, .int .i64 (k : Int)] w fun e w' => e = .returned (.bool true) ∧ Grown w w' := by
  go_enter Try.func6, Try.ntmps6
  go_wp2_with (first
    | (go_at_call 10; refine (bytes_walks_yes _ _ h _).mono ?_; rintro e w' ⟨rfl, rfl⟩)
    | (go_at_call 11; refine (isDigitByte_any _ _).mono ?_; rintro e w' ⟨rfl, rfl⟩))
  go_loop [5, 6, 7] (fun b q t => ∃ (j : Nat) (bv qv : Int), j ≤ k + 1 ∧ Hid (B s j = bv) ∧ Hid (Q s j = qv) ∧ b = .int .i64 bv ∧ q = .int .i64 qv ∧ t = .int .i64 (j : Int)) (fun _ _ t => k + 1 - (intOf t).toNat)
  case atStart => exact ⟨0, -1, 0, by omega, rfl, rfl, rfl, rfl, rfl⟩
  case round =>
    obtain ⟨j, bv, qv, hj, HB, HQ, rfl, rfl, rfl⟩ := hrel
    by_cases hlt : j < k + 1
    · have hq3 : qv = 0 ∨ qv = 1 ∨ qv = 2 := by have := Q_three s j; rw [HQ.out] at this; exact this
      have hj1 : j < s.size := by omega
      rcases hq3 with rfl | rfl | rfl
      · go_wp2_with (go_at_call 11; refine (isDigitByte_any _ _).mono ?_; rintro e w' ⟨rfl, rfl⟩)
        all_goals
          go_round
          case rel => first
            | exact ⟨j + 1, _, _, by omega, (step_new hj1 HQ ‹_›).1, (step_new hj1 HQ ‹_›).2, rfl, rfl, by go_num⟩
            | exact ⟨j + 1, _, _, by omega, (step_out hj1 HB HQ ‹_› (Or.inl (by decide))).1, (step_out hj1 HB HQ ‹_› (Or.inl (by decide))).2, rfl, rfl, by go_num⟩
          case measure => simp [intOf]; omega
      · go_wp2_with (go_at_call 11; refine (isDigitByte_any _ _).mono ?_; rintro e w' ⟨rfl, rfl⟩)
        all_goals
          go_round
          case rel => first
            | exact ⟨j + 1, _, _, by omega, (step_digit hj1 HB HQ (by decide) ‹_›).1, (step_digit hj1 HB HQ (by decide) ‹_›).2, rfl, rfl, by go_num⟩
            | exact ⟨j + 1, _, _, by omega, (step_sep hj1 HB HQ ‹_› (Or.inl ‹_›)).1, (step_sep hj1 HB HQ ‹_› (Or.inl ‹_›)).2, rfl, rfl, by go_num⟩
            | exact ⟨j + 1, _, _, by omega, (step_sep hj1 HB HQ ‹_› (Or.inr ‹_›)).1, (step_sep hj1 HB HQ ‹_› (Or.inr ‹_›)).2, rfl, rfl, by go_num⟩
            | exact ⟨j + 1, _, _, by omega, (step_out hj1 HB HQ ‹_› (Or.inr ⟨‹_›, ‹_›⟩)).1, (step_out hj1 HB HQ ‹_› (Or.inr ⟨‹_›, ‹_›⟩)).2, rfl, rfl, by go_num⟩
          case measure => simp [intOf]; omega
      · go_wp2_with (go_at_call 11; refine (isDigitByte_any _ _).mono ?_; rintro e w' ⟨rfl, rfl⟩)
        all_goals
          go_round
          case rel => first
            | exact ⟨j + 1, _, _, by omega, (step_digit hj1 HB HQ (by decide) ‹_›).1, (step_digit hj1 HB HQ (by decide) ‹_›).2, rfl, rfl, by go_num⟩
            | exact ⟨j + 1, _, _, by omega, (step_out hj1 HB HQ ‹_› (Or.inl (by decide))).1, (step_out hj1 HB HQ ‹_› (Or.inl (by decide))).2, rfl, rfl, by go_num⟩
          case measure => simp [intOf]; omega
    · obtain rfl : j = k + 1 := by omega
      have hb0 : 0 ≤ bv := by rw [← HB.out]; exact B_nonneg s (k + 1) (by rw [Q_digit ((D_at h1).trans hd)]; decide)
      have hb1 : bv ≤ (k : Int) := by have := B_lt s (k + 1); rw [HB.out] at this; omega
      have HD : Hid (D s k = true) := (D_at h1).trans hd
      clear HQ
      go_wp2
      go_loop [9, 10] (fun c t => ∃ cn tn : Nat, cn + tn ≤ k ∧ bv ≤ (cn : Int) ∧ Hid (D s cn = true) ∧ Hid (B s (cn + 1) = bv) ∧ c = .int .i64 (cn : Int) ∧ t = .int .i64 (tn : Int)) (fun c _ => (intOf c).toNat)
      case atStart => exact ⟨k, 0, by omega, hb1, HD, HB, rfl, rfl⟩
      case round =>
        clear hd HD HB
        obtain ⟨cn, tn, hct, hbc, HD, HB, rfl, rfl⟩ := hrel
        rcases Q_three s cn with hq | hq | hq
        · obtain ⟨e1, e2⟩ := back_zero HD.out hq
          have e3 : (cn : Int) ≤ bv := by rw [← HB.out, e2]; exact Int.le_refl _
          clear hq e2
          go_wp2_with (go_at_call 12; refine (before_any s cn (by omega) (by omega) _).mono ?_; rintro e w' ⟨rfl, rfl⟩)
          go_loop [12, 13] (fun v t => v = .int .i64 (-1) ∧ t = .int .i64 ((cn : Int) - 1)) (fun _ _ => 0)
          case atStart => exact ⟨rfl, rfl⟩
          case round =>
            obtain ⟨rfl, rfl⟩ := hrel
            go_wp2
            go_ret
            exact ⟨ret_b (by simp; omega), Grown.refl _⟩
        · obtain ⟨e1, c1, e2, e3⟩ := back_one hq
          have d1 : dg (s[cn - 1].toNat : Int) = true := (D_at (by omega)).symm.trans e2
          have b1 : bv ≤ (cn : Int) - 1 := by
            have := B_lt s (cn - 1 + 1)
            rw [← e3, HB.out] at this; omega
          have E2 : Hid (D s (cn - 1) = true) := e2
          have E3 : Hid (B s (cn - 1 + 1) = bv) := e3.symm.trans HB.out
          clear hq e2 e3 HD HB
          go_wp2_with (go_at_call 12; refine (before_any s cn (by omega) (by omega) _).mono ?_; rintro e w' ⟨rfl, rfl⟩)
          go_loop [12, 13] (fun v t => v = .int .i64 (-1) ∧ t = .int .i64 ((cn : Int) - 1)) (fun _ _ => 0)
          case atStart => exact ⟨rfl, rfl⟩
          case round =>
            obtain ⟨rfl, rfl⟩ := hrel
            go_wp2_with (go_at_call 11; refine (isDigitByte_any _ _).mono ?_; rintro e w' ⟨rfl, rfl⟩)
            go_round
            case rel => exact ⟨cn - 1, tn + 1, by omega, by omega, E2, E3, by go_num, by go_num⟩
            case measure => simp [intOf]; omega
        · obtain ⟨e1, c1, e2, e4, e3⟩ := back_two hq
          have d1 : dg (s[cn - 1].toNat : Int) = false := (D_at (by omega)).symm.trans e2
          have d2 : dg (s[cn - 2].toNat : Int) = true := (D_at (by omega)).symm.trans e4
          have b1 : bv ≤ (cn : Int) - 2 := by
            have := B_lt s (cn - 2 + 1)
            rw [← e3, HB.out] at this; omega
          have E2 : Hid (D s (cn - 2) = true) := e4
          have E3 : Hid (B s (cn - 2 + 1) = bv) := e3.symm.trans HB.out
          clear hq e2 e3 e4 HD HB
          go_wp2_with (go_at_call 12; refine (before_any s cn (by omega) (by omega) _).mono ?_; rintro e w' ⟨rfl, rfl⟩)
          go_loop [12, 13] (fun v t => v = .int .i64 (-1) ∧ (t = .int .i64 ((cn : Int) - 1) ∨ t = .int .i64 ((cn : Int) - 2))) (fun _ t => (intOf t).toNat)
          case atStart => exact ⟨rfl, Or.inl rfl⟩
          case round =>
            obtain ⟨rfl, hr⟩ := hrel
            rcases hr with rfl | rfl
            · go_wp2_with (go_at_call 11; refine (isDigitByte_any _ _).mono ?_; rintro e w' ⟨rfl, rfl⟩)
              go_round
              case rel => exact ⟨rfl, Or.inr (by go_num)⟩
              case measure => simp [intOf]; omega
            · go_wp2_with (go_at_call 11; refine (isDigitByte_any _ _).mono ?_; rintro e w' ⟨rfl, rfl⟩)
              go_round
              case rel => exact ⟨cn - 2, tn + 1, by omega, by omega, E2, E3, by go_num, by go_num⟩
              case measure => simp [intOf]; omega
end Go.Proofs.Qxb6619622a
