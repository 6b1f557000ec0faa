/-
  THE PROOF OF 'Rows.FnClockCompareIs128BitOrderSaid': the frame is the guide's template as the seat's shell lays it; the walk is ours.
-/
import Derived.Test.Qxb6619539aRows
import Derived.Test.Qxb6619539aCalls
import Derived.WalkSpells
import Derived.RowKit3
import Derived.WalkKit
import Derived.ProofKit
import Derived.OpenShut
import Derived.ShutString
namespace Go.Proofs.Qxb6619539a.fnClockCompareIs128BitOrder
open Go.ChangeShapes Go.WideShapes Go.ChangeAt Go.RowKit
open Go.ChangeMaps (open_string shut_string)
set_option linter.unusedVariables false      -- a walk need not use every 'w<i>' (that an integer argument fits its kind)

theorem own : ownKnob Try.prog.godebug = none := by kernel_rfl

/-! ### STEP 1: THE WALK: the Go text returns true. The three cases of the order, each with what the callees answer there. -/
set_option maxHeartbeats 400000 in
theorem below (ct cr dt dr : Int) (hc : cmpv ct cr dt dr = -1) (hd : cmpv dt dr ct cr = 1) (hb : sub_bo ct cr dt dr = 1) (w : World) :
    Calls Try.prog 5 #[.int .u64 ct, .int .u64 cr, .int .u64 dt, .int .u64 dr] w fun e w' => e = .returned (.bool true) ∧ Grown w w' := by
  go_enter Try.func5, Try.ntmps5
  go_wp2_with (first
    | (go_at_call 16; refine (clockOf_any _ _ _).mono ?_; rintro e w' ⟨rfl, rfl⟩)
    | (go_at_call 17; refine (sub128_any _ _ _ _ _).mono ?_; rintro e w' ⟨rfl, rfl⟩)
    | (go_at_call 18; refine (compare_any _ _ _ _ _).mono ?_; rintro e w' ⟨rfl, rfl⟩))
  go_ret
  exact ⟨rfl, by repeat (first | exact Grown.refl _ | apply Grown.drew | apply Grown.alloc)⟩

set_option maxHeartbeats 400000 in
theorem equal (ct cr : Int) (hc : cmpv ct cr ct cr = 0) (hh : sub_hi ct cr ct cr = 0) (hl : sub_lo cr cr = 0) (hb : sub_bo ct cr ct cr = 0) (w : World) :
    Calls Try.prog 5 #[.int .u64 ct, .int .u64 cr, .int .u64 ct, .int .u64 cr] w fun e w' => e = .returned (.bool true) ∧ Grown w w' := by
  go_enter Try.func5, Try.ntmps5
  go_wp2_with (first
    | (go_at_call 16; refine (clockOf_any _ _ _).mono ?_; rintro e w' ⟨rfl, rfl⟩)
    | (go_at_call 17; refine (sub128_any _ _ _ _ _).mono ?_; rintro e w' ⟨rfl, rfl⟩)
    | (go_at_call 18; refine (compare_any _ _ _ _ _).mono ?_; rintro e w' ⟨rfl, rfl⟩))
  go_ret
  exact ⟨rfl, by repeat (first | exact Grown.refl _ | apply Grown.drew | apply Grown.alloc)⟩

set_option maxHeartbeats 400000 in
theorem above (ct cr dt dr : Int) (hc : cmpv ct cr dt dr = 1) (hd : cmpv dt dr ct cr = -1) (hb : sub_bo ct cr dt dr = 0)
    (hz : (sub_hi ct cr dt dr == 0) = false ∨ ((sub_hi ct cr dt dr == 0) = true ∧ (sub_lo cr dr == 0) = false)) (w : World) :
    Calls Try.prog 5 #[.int .u64 ct, .int .u64 cr, .int .u64 dt, .int .u64 dr] w fun e w' => e = .returned (.bool true) ∧ Grown w w' := by
  rcases hz with hz | ⟨hz, hy⟩
  · go_enter Try.func5, Try.ntmps5
    go_wp2_with (first
      | (go_at_call 16; refine (clockOf_any _ _ _).mono ?_; rintro e w' ⟨rfl, rfl⟩)
      | (go_at_call 17; refine (sub128_any _ _ _ _ _).mono ?_; rintro e w' ⟨rfl, rfl⟩)
      | (go_at_call 18; refine (compare_any _ _ _ _ _).mono ?_; rintro e w' ⟨rfl, rfl⟩))
    go_ret
    exact ⟨rfl, by repeat (first | exact Grown.refl _ | apply Grown.drew | apply Grown.alloc)⟩
  · go_enter Try.func5, Try.ntmps5
    go_wp2_with (first
      | (go_at_call 16; refine (clockOf_any _ _ _).mono ?_; rintro e w' ⟨rfl, rfl⟩)
      | (go_at_call 17; refine (sub128_any _ _ _ _ _).mono ?_; rintro e w' ⟨rfl, rfl⟩)
      | (go_at_call 18; refine (compare_any _ _ _ _ _).mono ?_; rintro e w' ⟨rfl, rfl⟩))
    go_ret
    exact ⟨rfl, by repeat (first | exact Grown.refl _ | apply Grown.drew | apply Grown.alloc)⟩

theorem word_of {a : Int} (h : (Lit.int .u64 a).wf = true) : Word a := by
  have hb := bounds_u64 h
  unfold Word; omega

theorem walk (a0 : Int) (a1 : Int) (a2 : Int) (a3 : Int) (w0 : (Lit.int .u64 a0).wf = true) (w1 : (Lit.int .u64 a1).wf = true) (w2 : (Lit.int .u64 a2).wf = true) (w3 : (Lit.int .u64 a3).wf = true) (w : World) :
    Calls Try.prog 5 #[.int .u64 a0, .int .u64 a1, .int .u64 a2, .int .u64 a3] w fun e w' => e = .returned (.bool true) ∧ Grown w w' := by
  have h0 := word_of w0
  have h1 := word_of w1
  have h2 := word_of w2
  have h3 := word_of w3
  have hn := cmpv_neg a0 a1 a2 a3
  rcases cmpv_three a0 a1 a2 a3 with h | h | ⟨rfl, rfl⟩
  · exact below a0 a1 a2 a3 h (by rw [hn, h]; rfl) (sub_below a0 a1 a2 a3 h0 h1 h2 h3 h) w
  · obtain ⟨hb, hz⟩ := sub_above a0 a1 a2 a3 h0 h1 h2 h3 h
    refine above a0 a1 a2 a3 h (by rw [hn, h]) hb ?_ w
    by_cases z : sub_hi a0 a1 a2 a3 = 0
    · exact Or.inr ⟨by simp [z], by simpa using hz z⟩
    · exact Or.inl (by simpa using z)
  · obtain ⟨hh, hl, hb⟩ := sub_equal a0 a1 h0 h1
    exact equal a0 a1 (cmpv_self a0 a1) hh hl hb w

/-! ### THE ROW's STEP: WRITTEN OUT: LEAVE IT -/
set_option maxRecDepth 100000 in
theorem lifted (os : Os) (started : os.Started) (H : Type) (enc : TypeId × Value → H) :
    ReturnsInHanded {} Try.checked os 5 .any (Rows.fnClockCompareIs128BitOrderSpec.pre6 enc Try.prog Try.f5 Rows.fnClockCompareIs128BitOrderRow.domain false) (Rows.fnClockCompareIs128BitOrderSpec.post enc Try.prog Try.f5 false true false false) := by
  refine returnsInHanded_of_change (C := Try.checked) own started (by kernel_rfl) Try.func5
    (ChangeSpec.witness6 (enc := enc) (C := Try.checked) false ⟨#[], #[.int .u64 0, .int .u64 0, .int .u64 0, .int .u64 0], []⟩ 8 (by kernel_rfl) (by kernel_rfl) (by kernel_rfl) (by kernel_rfl)) ?_
  intro W base args ds gs before hval0 hW hcnd _
  have hval : ∀ (j : Nat) t v, Try.f5.params[j]? = some t → args[j]? = some v → Value.okWide Try.prog W .any base t v := hval0
  have hW' := hW
  obtain ⟨p, q, hA0, hV, rfl, hfz, hnd⟩ := hW
  have hA : DataW.TrodAll enc Try.prog W 0 (fun _ => true) true Try.f5.params.toList args.toList ds p := hA0
  rw [Try.params5] at hA hval
  obtain ⟨v0, vs0, d0, ds0, p0, q0, hargs, rfl, rfl, h0, r0⟩ := trodAll_cons hA
  obtain ⟨v1, vs1, d1, ds1, p1, q1, rfl, rfl, rfl, h1, r1⟩ := trodAll_cons r0
  obtain ⟨v2, vs2, d2, ds2, p2, q2, rfl, rfl, rfl, h2, r2⟩ := trodAll_cons r1
  obtain ⟨v3, vs3, d3, ds3, p3, q3, rfl, rfl, rfl, h3, r3⟩ := trodAll_cons r2
  obtain ⟨rfl, rfl, rfl⟩ := trodAll_nil r3
  obtain rfl : args = #[v0, v1, v2, v3] := by cases args; simp_all
  obtain ⟨rfl, rfl⟩ := trodVars_none hV
  obtain ⟨a0, rfl, rfl, rfl, w0⟩ := open_int Try.underlying23 (hval 0 23 v0 rfl rfl) h0
  obtain ⟨a1, rfl, rfl, rfl, w1⟩ := open_int Try.underlying23 (hval 1 23 v1 rfl rfl) h1
  obtain ⟨a2, rfl, rfl, rfl, w2⟩ := open_int Try.underlying23 (hval 2 23 v2 rfl rfl) h2
  obtain ⟨a3, rfl, rfl, rfl, w3⟩ := open_int Try.underlying23 (hval 3 23 v3 rfl rfl) h3
  clear hA0 hval0
  simp only [List.append_nil] at hW'
  refine (walk a0 a1 a2 a3 w0 w1 w2 w3 W).mono fun e W' ⟨he, hg⟩ => ?_
  subst he
  exact ⟨_, rfl, post_of_same (pa := []) (pv := []) hW' (fun _ _ _ => (trodAll_cons_mk (shut_bool Try.underlying4 _) trodAll_mk0)) (fun sp _ => (trodAll_cons_mk (shut_int Try.underlying23 w0) (trodAll_cons_mk (shut_int Try.underlying23 w1) (trodAll_cons_mk (shut_int Try.underlying23 w2) (trodAll_cons_mk (shut_int Try.underlying23 w3) trodAll_mk0))))) (fun _ _ => rfl) rfl
    (hg.frame _) hg.2.1 (ok_one (by kernel_rfl) rfl (okWide_bool_mk Try.underlying4 _))⟩

theorem over : Rows.fnClockCompareIs128BitOrderRow.holds Try.pinned (OpenSpec.ofChange Rows.fnClockCompareIs128BitOrderSpec) :=
  OpenClaim.holds_of_wide 5 Try.f5 rfl rfl rfl rfl rfl rfl rfl ⟨rfl, rfl, rfl, rfl, rfl⟩ rfl rfl rfl rfl rfl (by kernel_rfl) Try.func5 (by kernel_rfl)
    (of_decide_eq_true (by kernel_rfl)) (by unfold Func.isWrapper; first | (rw [if_pos (by decide +kernel)]; kernel_rfl) | (rw [if_neg (by decide +kernel)]; exact ⟨rfl, rfl⟩))
    (fun os started H enc _ => lifted os started H enc)

/-- ████ THE STATEMENT ████ -/
theorem proved : Rows.FnClockCompareIs128BitOrderSaid :=
  over
#print axioms proved
end Go.Proofs.Qxb6619539a.fnClockCompareIs128BitOrder
