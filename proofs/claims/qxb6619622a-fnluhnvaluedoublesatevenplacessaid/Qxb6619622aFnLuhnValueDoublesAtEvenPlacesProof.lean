/-
  THE PROOF OF 'Rows.FnLuhnValueDoublesAtEvenPlacesSaid': the frame is the guide's template as the seat's shell lays it; the walk is ours.
-/
import Derived.Test.Qxb6619622aRows
import Derived.Test.Qxb6619622aLuhn
import Derived.WalkSpells
import Derived.RowKit3
import Derived.WalkKit
import Derived.ProofKit
import Derived.OpenShut
import Derived.ShutString
namespace Go.Proofs.Qxb6619622a.fnLuhnValueDoublesAtEvenPlaces
open Go.ChangeShapes Go.WideShapes Go.ChangeAt Go.RowKit
open Go.ChangeMaps (open_string shut_string)
set_option linter.unusedVariables false      -- a walk need not use every 'w<i>' (that an integer argument fits its kind)

theorem own : ownKnob Try.prog.godebug = none := by kernel_rfl

/-! ### STEP 1: THE WALK: the Go text returns true. One walk for each way through the tests. -/
theorem no_c0 (c n : Int) (h : c < 48) (w : World) :
    Calls Try.prog 3 #[.int .u8 c, .int .i64 n] w fun e w' => e = .returned (.bool true) ∧ Grown w w' := by
  go_enter Try.func3, Try.ntmps3
  go_wp2
  go_ret
  exact ⟨rfl, Grown.refl _⟩
theorem no_c1 (c n : Int) (h0 : 48 ≤ c) (h : 57 < c) (w : World) :
    Calls Try.prog 3 #[.int .u8 c, .int .i64 n] w fun e w' => e = .returned (.bool true) ∧ Grown w w' := by
  go_enter Try.func3, Try.ntmps3
  go_wp2
  go_ret
  exact ⟨rfl, Grown.refl _⟩
theorem no_n0 (c n : Int) (h0 : 48 ≤ c) (h1 : c ≤ 57) (h : n < 1) (w : World) :
    Calls Try.prog 3 #[.int .u8 c, .int .i64 n] w fun e w' => e = .returned (.bool true) ∧ Grown w w' := by
  go_enter Try.func3, Try.ntmps3
  go_wp2
  go_ret
  exact ⟨rfl, Grown.refl _⟩
theorem no_n1 (c n : Int) (h0 : 48 ≤ c) (h1 : c ≤ 57) (h2 : 1 ≤ n) (h : 9223372036854775807 ≤ n) (w : World) :
    Calls Try.prog 3 #[.int .u8 c, .int .i64 n] w fun e w' => e = .returned (.bool true) ∧ Grown w w' := by
  go_enter Try.func3, Try.ntmps3
  go_wp2
  go_ret
  exact ⟨rfl, Grown.refl _⟩

theorem lv_odd (c n : Int) (h : n % 2 = 1) : lv c n = c - 48 := by unfold lv; rw [if_pos h]
/-- Double the digit and add up the double's digits. -/
theorem lv_even (c n : Int) (h0 : 48 ≤ c) (h1 : c ≤ 57) (h : n % 2 = 0) : lv c n = 2 * (c - 48) % 10 + 2 * (c - 48) / 10 := by
  unfold lv; rw [if_neg (by omega)]; split <;> omega

/-- n is odd: the first value is the digit, the second its double's digit sum. -/
theorem at_odd (c n : Int) (h0 : 48 ≤ c) (h1 : c ≤ 57) (n0 : 1 ≤ n) (n1 : n < 9223372036854775807) (hn : (n % 2 == 0) = false) (e1 : lv c n = c - 48) (e2 : lv c (n + 1) = 2 * (c - 48) % 10 + 2 * (c - 48) / 10) (w : World) :
    Calls Try.prog 3 #[.int .u8 c, .int .i64 n] w fun e w' => e = .returned (.bool true) ∧ Grown w w' := by
  go_enter Try.func3, Try.ntmps3
  go_wp2_with (first
    | (go_at_call 8; refine (luhn_any _ _ (by omega) (by omega) (by omega) (by omega) _).mono ?_; rintro e w' ⟨rfl, rfl⟩)
    | (go_at_call 9; refine (digitSum_any _ (by omega) (by omega) _).mono ?_; rintro e w' ⟨rfl, rfl⟩))
  go_ret
  exact ⟨rfl, Grown.refl _⟩

/-- n is even: the second value is the digit, the first its double's digit sum. -/
theorem at_even (c n : Int) (h0 : 48 ≤ c) (h1 : c ≤ 57) (n0 : 1 ≤ n) (n1 : n < 9223372036854775807) (hn : (n % 2 == 0) = true) (e1 : lv c (n + 1) = c - 48) (e2 : lv c n = 2 * (c - 48) % 10 + 2 * (c - 48) / 10) (w : World) :
    Calls Try.prog 3 #[.int .u8 c, .int .i64 n] w fun e w' => e = .returned (.bool true) ∧ Grown w w' := by
  go_enter Try.func3, Try.ntmps3
  go_wp2_with (first
    | (go_at_call 8; refine (luhn_any _ _ (by omega) (by omega) (by omega) (by omega) _).mono ?_; rintro e w' ⟨rfl, rfl⟩)
    | (go_at_call 9; refine (digitSum_any _ (by omega) (by omega) _).mono ?_; rintro e w' ⟨rfl, rfl⟩))
  go_ret
  exact ⟨rfl, Grown.refl _⟩

theorem walk (a0 : Int) (a1 : Int) (w0 : (Lit.int .u8 a0).wf = true) (w1 : (Lit.int .i64 a1).wf = true) (w : World) :
    Calls Try.prog 3 #[.int .u8 a0, .int .i64 a1] w fun e w' => e = .returned (.bool true) ∧ Grown w w' := by
  by_cases p : a0 < 48
  · exact no_c0 a0 a1 p w
  by_cases q : 57 < a0
  · exact no_c1 a0 a1 (by omega) q w
  by_cases r : a1 < 1
  · exact no_n0 a0 a1 (by omega) (by omega) r w
  by_cases s : 9223372036854775807 ≤ a1
  · exact no_n1 a0 a1 (by omega) (by omega) (by omega) s w
  by_cases t : a1 % 2 = 0
  · exact at_even a0 a1 (by omega) (by omega) (by omega) (by omega) (by simpa using t) (lv_odd a0 (a1 + 1) (by omega)) (lv_even a0 a1 (by omega) (by omega) t) w
  · exact at_odd a0 a1 (by omega) (by omega) (by omega) (by omega) (by simpa using t) (lv_odd a0 a1 (by omega)) (lv_even a0 (a1 + 1) (by omega) (by omega) (by omega)) w

/-! ### THE ROW's STEP: WRITTEN OUT: LEAVE IT -/
set_option maxRecDepth 100000 in
theorem lifted (os : Os) (started : os.Started) (H : Type) (enc : TypeId × Value → H) :
    ReturnsInHanded {} Try.checked os 3 .any (Rows.fnLuhnValueDoublesAtEvenPlacesSpec.pre6 enc Try.prog Try.f3 Rows.fnLuhnValueDoublesAtEvenPlacesRow.domain false) (Rows.fnLuhnValueDoublesAtEvenPlacesSpec.post enc Try.prog Try.f3 false true false false) := by
  refine returnsInHanded_of_change (C := Try.checked) own started (by kernel_rfl) Try.func3
    (ChangeSpec.witness6 (enc := enc) (C := Try.checked) false ⟨#[], #[.int .u8 0, .int .i64 0], []⟩ 8 (by kernel_rfl) (by kernel_rfl) (by kernel_rfl) (by kernel_rfl)) ?_
  intro W base args ds gs before hval0 hW hcnd _
  have hval : ∀ (j : Nat) t v, Try.f3.params[j]? = some t → args[j]? = some v → Value.okWide Try.prog W .any base t v := hval0
  have hW' := hW
  obtain ⟨p, q, hA0, hV, rfl, hfz, hnd⟩ := hW
  have hA : DataW.TrodAll enc Try.prog W 0 (fun _ => true) true Try.f3.params.toList args.toList ds p := hA0
  rw [Try.params3] at hA hval
  obtain ⟨v0, vs0, d0, ds0, p0, q0, hargs, rfl, rfl, h0, r0⟩ := trodAll_cons hA
  obtain ⟨v1, vs1, d1, ds1, p1, q1, rfl, rfl, rfl, h1, r1⟩ := trodAll_cons r0
  obtain ⟨rfl, rfl, rfl⟩ := trodAll_nil r1
  obtain rfl : args = #[v0, v1] := by cases args; simp_all
  obtain ⟨rfl, rfl⟩ := trodVars_none hV
  obtain ⟨a0, rfl, rfl, rfl, w0⟩ := open_int Try.underlying5 (hval 0 5 v0 rfl rfl) h0
  obtain ⟨a1, rfl, rfl, rfl, w1⟩ := open_int Try.underlying3 (hval 1 3 v1 rfl rfl) h1
  clear hA0 hval0
  simp only [List.append_nil] at hW'
  refine (walk a0 a1 w0 w1 W).mono fun e W' ⟨he, hg⟩ => ?_
  subst he
  exact ⟨_, rfl, post_of_same (pa := []) (pv := []) hW' (fun _ _ _ => (trodAll_cons_mk (shut_bool Try.underlying4 _) trodAll_mk0)) (fun sp _ => (trodAll_cons_mk (shut_int Try.underlying5 w0) (trodAll_cons_mk (shut_int Try.underlying3 w1) trodAll_mk0))) (fun _ _ => rfl) rfl
    (hg.frame _) hg.2.1 (ok_one (by kernel_rfl) rfl (okWide_bool_mk Try.underlying4 _))⟩

theorem over : Rows.fnLuhnValueDoublesAtEvenPlacesRow.holds Try.pinned (OpenSpec.ofChange Rows.fnLuhnValueDoublesAtEvenPlacesSpec) :=
  OpenClaim.holds_of_wide 3 Try.f3 rfl rfl rfl rfl rfl rfl rfl ⟨rfl, rfl, rfl, rfl, rfl⟩ rfl rfl rfl rfl rfl (by kernel_rfl) Try.func3 (by kernel_rfl)
    (of_decide_eq_true (by kernel_rfl)) (by unfold Func.isWrapper; first | (rw [if_pos (by decide +kernel)]; kernel_rfl) | (rw [if_neg (by decide +kernel)]; exact ⟨rfl, rfl⟩))
    (fun os started H enc _ => lifted os started H enc)

/-- ████ THE STATEMENT ████ -/
theorem proved : Rows.FnLuhnValueDoublesAtEvenPlacesSaid :=
  over
#print axioms proved
end Go.Proofs.Qxb6619622a.fnLuhnValueDoublesAtEvenPlaces
