/-
  THE PROOF OF 'Rows.FnLuhnValueTellsDigitsApartSaid': the frame is the guide's template as the seat's shell lays it; the walk is ours.
-/
import Derived.Test.Qxb6619622aRows
import Derived.Test.Qxb6619622aLuhn
import Derived.WalkSpells
import Derived.RowKit3
import Derived.WalkKit
import Derived.ProofKit
import Derived.OpenShut
import Derived.ShutString
namespace Go.Proofs.Qxb6619622a.fnLuhnValueTellsDigitsApart
open Go.ChangeShapes Go.WideShapes Go.ChangeAt Go.RowKit
open Go.ChangeMaps (open_string shut_string)
set_option linter.unusedVariables false      -- a walk need not use every 'w<i>' (that an integer argument fits its kind)

theorem own : ownKnob Try.prog.godebug = none := by kernel_rfl

/-! ### STEP 1: THE WALK: the Go text returns true. One walk for each way through the tests. -/
theorem no_a0 (a b n : Int) (h : a < 48) (w : World) :
    Calls Try.prog 4 #[.int .u8 a, .int .u8 b, .int .i64 n] w fun e w' => e = .returned (.bool true) ∧ Grown w w' := by
  go_enter Try.func4, Try.ntmps4
  go_wp2
  go_ret
  exact ⟨rfl, Grown.refl _⟩
theorem no_a1 (a b n : Int) (h0 : 48 ≤ a) (h : 57 < a) (w : World) :
    Calls Try.prog 4 #[.int .u8 a, .int .u8 b, .int .i64 n] w fun e w' => e = .returned (.bool true) ∧ Grown w w' := by
  go_enter Try.func4, Try.ntmps4
  go_wp2
  go_ret
  exact ⟨rfl, Grown.refl _⟩
theorem no_b0 (a b n : Int) (h0 : 48 ≤ a) (h1 : a ≤ 57) (h : b < 48) (w : World) :
    Calls Try.prog 4 #[.int .u8 a, .int .u8 b, .int .i64 n] w fun e w' => e = .returned (.bool true) ∧ Grown w w' := by
  go_enter Try.func4, Try.ntmps4
  go_wp2
  go_ret
  exact ⟨rfl, Grown.refl _⟩
theorem no_b1 (a b n : Int) (h0 : 48 ≤ a) (h1 : a ≤ 57) (h2 : 48 ≤ b) (h : 57 < b) (w : World) :
    Calls Try.prog 4 #[.int .u8 a, .int .u8 b, .int .i64 n] w fun e w' => e = .returned (.bool true) ∧ Grown w w' := by
  go_enter Try.func4, Try.ntmps4
  go_wp2
  go_ret
  exact ⟨rfl, Grown.refl _⟩
theorem no_n (a b n : Int) (h0 : 48 ≤ a) (h1 : a ≤ 57) (h2 : 48 ≤ b) (h3 : b ≤ 57) (h : n < 1) (w : World) :
    Calls Try.prog 4 #[.int .u8 a, .int .u8 b, .int .i64 n] w fun e w' => e = .returned (.bool true) ∧ Grown w w' := by
  go_enter Try.func4, Try.ntmps4
  go_wp2
  go_ret
  exact ⟨rfl, Grown.refl _⟩

theorem ret_bool {a : Bool} (h : a = true) : Ending.returned (.bool a) = .returned (.bool true) := by rw [h]
theorem same_test {x a b : Int} (h : x = 0 ↔ a = b) : ((x == 0) == (a == b)) = true := by
  rw [beq_iff_eq, Bool.eq_iff_iff, beq_iff_eq, beq_iff_eq]; exact h

theorem digits (a b n : Int) (h0 : 48 ≤ a) (h1 : a ≤ 57) (h2 : 48 ≤ b) (h3 : b ≤ 57) (n0 : 1 ≤ n) (n1 : n ≤ 9223372036854775807) (w : World) :
    Calls Try.prog 4 #[.int .u8 a, .int .u8 b, .int .i64 n] w fun e w' => e = .returned (.bool true) ∧ Grown w w' := by
  have va := lv_bounds a n h0 h1
  have vb := lv_bounds b n h2 h3
  have HA : Hid ((lv a n - lv b n).tmod 10 = 0 ↔ a = b) := lv_apart a b n h0 h1 h2 h3
  obtain ⟨va0, va1⟩ := va
  obtain ⟨vb0, vb1⟩ := vb
  go_enter Try.func4, Try.ntmps4
  go_wp2_with (go_at_call 8; refine (luhn_any _ _ (by omega) (by omega) (by omega) (by omega) _).mono ?_; rintro e w' ⟨rfl, rfl⟩)
  go_ret
  exact ⟨ret_bool (same_test HA.out), Grown.refl _⟩

theorem walk (a0 : Int) (a1 : Int) (a2 : Int) (w0 : (Lit.int .u8 a0).wf = true) (w1 : (Lit.int .u8 a1).wf = true) (w2 : (Lit.int .i64 a2).wf = true) (w : World) :
    Calls Try.prog 4 #[.int .u8 a0, .int .u8 a1, .int .i64 a2] w fun e w' => e = .returned (.bool true) ∧ Grown w w' := by
  have hn := bounds_i64 w2
  by_cases p : a0 < 48
  · exact no_a0 a0 a1 a2 p w
  by_cases q : 57 < a0
  · exact no_a1 a0 a1 a2 (by omega) q w
  by_cases r : a1 < 48
  · exact no_b0 a0 a1 a2 (by omega) (by omega) r w
  by_cases s : 57 < a1
  · exact no_b1 a0 a1 a2 (by omega) (by omega) (by omega) s w
  by_cases t : a2 < 1
  · exact no_n a0 a1 a2 (by omega) (by omega) (by omega) (by omega) t w
  exact digits a0 a1 a2 (by omega) (by omega) (by omega) (by omega) (by omega) (by omega) w

/-! ### THE ROW's STEP: WRITTEN OUT: LEAVE IT -/
set_option maxRecDepth 100000 in
theorem lifted (os : Os) (started : os.Started) (H : Type) (enc : TypeId × Value → H) :
    ReturnsInHanded {} Try.checked os 4 .any (Rows.fnLuhnValueTellsDigitsApartSpec.pre6 enc Try.prog Try.f4 Rows.fnLuhnValueTellsDigitsApartRow.domain false) (Rows.fnLuhnValueTellsDigitsApartSpec.post enc Try.prog Try.f4 false true false false) := by
  refine returnsInHanded_of_change (C := Try.checked) own started (by kernel_rfl) Try.func4
    (ChangeSpec.witness6 (enc := enc) (C := Try.checked) false ⟨#[], #[.int .u8 0, .int .u8 0, .int .i64 0], []⟩ 8 (by kernel_rfl) (by kernel_rfl) (by kernel_rfl) (by kernel_rfl)) ?_
  intro W base args ds gs before hval0 hW hcnd _
  have hval : ∀ (j : Nat) t v, Try.f4.params[j]? = some t → args[j]? = some v → Value.okWide Try.prog W .any base t v := hval0
  have hW' := hW
  obtain ⟨p, q, hA0, hV, rfl, hfz, hnd⟩ := hW
  have hA : DataW.TrodAll enc Try.prog W 0 (fun _ => true) true Try.f4.params.toList args.toList ds p := hA0
  rw [Try.params4] at hA hval
  obtain ⟨v0, vs0, d0, ds0, p0, q0, hargs, rfl, rfl, h0, r0⟩ := trodAll_cons hA
  obtain ⟨v1, vs1, d1, ds1, p1, q1, rfl, rfl, rfl, h1, r1⟩ := trodAll_cons r0
  obtain ⟨v2, vs2, d2, ds2, p2, q2, rfl, rfl, rfl, h2, r2⟩ := trodAll_cons r1
  obtain ⟨rfl, rfl, rfl⟩ := trodAll_nil r2
  obtain rfl : args = #[v0, v1, v2] := by cases args; simp_all
  obtain ⟨rfl, rfl⟩ := trodVars_none hV
  obtain ⟨a0, rfl, rfl, rfl, w0⟩ := open_int Try.underlying5 (hval 0 5 v0 rfl rfl) h0
  obtain ⟨a1, rfl, rfl, rfl, w1⟩ := open_int Try.underlying5 (hval 1 5 v1 rfl rfl) h1
  obtain ⟨a2, rfl, rfl, rfl, w2⟩ := open_int Try.underlying3 (hval 2 3 v2 rfl rfl) h2
  clear hA0 hval0
  simp only [List.append_nil] at hW'
  refine (walk a0 a1 a2 w0 w1 w2 W).mono fun e W' ⟨he, hg⟩ => ?_
  subst he
  exact ⟨_, rfl, post_of_same (pa := []) (pv := []) hW' (fun _ _ _ => (trodAll_cons_mk (shut_bool Try.underlying4 _) trodAll_mk0)) (fun sp _ => (trodAll_cons_mk (shut_int Try.underlying5 w0) (trodAll_cons_mk (shut_int Try.underlying5 w1) (trodAll_cons_mk (shut_int Try.underlying3 w2) trodAll_mk0)))) (fun _ _ => rfl) rfl
    (hg.frame _) hg.2.1 (ok_one (by kernel_rfl) rfl (okWide_bool_mk Try.underlying4 _))⟩

theorem over : Rows.fnLuhnValueTellsDigitsApartRow.holds Try.pinned (OpenSpec.ofChange Rows.fnLuhnValueTellsDigitsApartSpec) :=
  OpenClaim.holds_of_wide 4 Try.f4 rfl rfl rfl rfl rfl rfl rfl ⟨rfl, rfl, rfl, rfl, rfl⟩ rfl rfl rfl rfl rfl (by kernel_rfl) Try.func4 (by kernel_rfl)
    (of_decide_eq_true (by kernel_rfl)) (by unfold Func.isWrapper; first | (rw [if_pos (by decide +kernel)]; kernel_rfl) | (rw [if_neg (by decide +kernel)]; exact ⟨rfl, rfl⟩))
    (fun os started H enc _ => lifted os started H enc)

/-- ████ THE STATEMENT ████ -/
theorem proved : Rows.FnLuhnValueTellsDigitsApartSaid :=
  over
#print axioms proved
end Go.Proofs.Qxb6619622a.fnLuhnValueTellsDigitsApart
