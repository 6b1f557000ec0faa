/-
  THE PROOF OF 'Rows.FnClockCompareShiftInvariantSaid': the frame is the guide's template as the seat's shell lays it; the walk is ours.
-/
import Derived.Test.Qxb6619539aRows
import Derived.Test.Qxb6619539aShift
import Derived.WalkSpells
import Derived.RowKit3
import Derived.Laws.Pointers
import Derived.Deep.RegionHeld3
import Derived.WalkKit
import Derived.ProofKit
import Derived.OpenShut
import Derived.ShutString
namespace Go.Proofs.Qxb6619539a.fnClockCompareShiftInvariant
open Go.ChangeShapes Go.WideShapes Go.ChangeAt Go.RowKit
open Go.ChangeMaps (open_string shut_string)
set_option linter.unusedVariables false      -- a walk need not use every 'w<i>' (that an integer argument fits its kind)

theorem own : ownKnob Try.prog.godebug = none := by kernel_rfl

/-! ### STEP 1: THE WALK: the Go text returns true -/
theorem add128_w (xh xl yh yl : Int) (w : World) :
    Calls Try.prog 19 #[.int .u64 xh, .int .u64 xl, .int .u64 yh, .int .u64 yl] w fun e w' =>
      e = .returned (.tuple #[.int .u64 (add_hi xh xl yh yl), .int .u64 (add_lo xl yl), .int .u64 (add_co xh xl yh yl)]) ∧ w = w' :=
  (add128_any xh xl yh yl w).mono fun _ _ h => ⟨h.1, h.2.symm⟩

/-- Sixteen new blocks and one draw. -/
theorem grown16 (w : World) (c0 : Array Value) (t0 : TypeId) (c1 : Array Value) (t1 : TypeId) (c2 : Array Value) (t2 : TypeId) (c3 : Array Value) (t3 : TypeId) (c4 : Array Value) (t4 : TypeId) (c5 : Array Value) (t5 : TypeId) (c6 : Array Value) (t6 : TypeId) (c7 : Array Value) (t7 : TypeId) (c8 : Array Value) (t8 : TypeId) (c9 : Array Value) (t9 : TypeId) (c10 : Array Value) (t10 : TypeId) (c11 : Array Value) (t11 : TypeId) (c12 : Array Value) (t12 : TypeId) (c13 : Array Value) (t13 : TypeId) (c14 : Array Value) (t14 : TypeId) (c15 : Array Value) (t15 : TypeId) :
    Grown w ((((((((((((((((w.alloc (.cells c0 t0)).alloc (.cells c1 t1)).alloc (.cells c2 t2)).alloc (.cells c3 t3)).alloc (.cells c4 t4)).alloc (.cells c5 t5)).alloc (.cells c6 t6)).alloc (.cells c7 t7)).alloc (.cells c8 t8)).alloc (.cells c9 t9)).alloc (.cells c10 t10)).alloc (.cells c11 t11)).alloc (.cells c12 t12)).alloc (.cells c13 t13)).alloc (.cells c14 t14)).alloc (.cells c15 t15)).drew :=
  (((((((((((((((((Grown.refl _).alloc _ _).alloc _ _).alloc _ _).alloc _ _).alloc _ _).alloc _ _).alloc _ _).alloc _ _).alloc _ _).alloc _ _).alloc _ _).alloc _ _).alloc _ _).alloc _ _).alloc _ _).alloc _ _).drew

/-- The sum of c and the step is no clock any more. -/
theorem over_c (ct cr dt dr kt kr : Int) (ho : (add_co ct cr kt kr != 0) = true) (w : World) :
    Calls Try.prog 6 #[.int .u64 ct, .int .u64 cr, .int .u64 dt, .int .u64 dr, .int .u64 kt, .int .u64 kr] w fun e w' => e = .returned (.bool true) ∧ Grown w w' := by
  go_enter Try.func6, Try.ntmps6
  go_wp2_with (go_at_call 19; refine (add128_w _ _ _ _ _).mono ?_; rintro e w' ⟨rfl, rfl⟩)
  go_ret
  exact ⟨rfl, Grown.refl _⟩

/-- The sum of d and the step is no clock any more. -/
theorem over_d (ct cr dt dr kt kr : Int) (hc : add_co ct cr kt kr = 0) (ho : (add_co dt dr kt kr != 0) = true) (w : World) :
    Calls Try.prog 6 #[.int .u64 ct, .int .u64 cr, .int .u64 dt, .int .u64 dr, .int .u64 kt, .int .u64 kr] w fun e w' => e = .returned (.bool true) ∧ Grown w w' := by
  go_enter Try.func6, Try.ntmps6
  go_wp2_with (go_at_call 19; refine (add128_w _ _ _ _ _).mono ?_; rintro e w' ⟨rfl, rfl⟩)
  go_ret
  exact ⟨rfl, Grown.refl _⟩

set_option maxHeartbeats 1600000 in
theorem up_t (ct cr dt dr kt kr v : Int) (hc : add_co ct cr kt kr = 0) (hd : add_co dt dr kt kr = 0) (hk : (kt == 0) = false)
    (e1 : cmpv (add_hi ct cr kt kr) (add_lo cr kr) (add_hi dt dr kt kr) (add_lo dr kr) = v) (e2 : cmpv ct cr dt dr = v)
    (e3 : cmpv ct cr (add_hi ct cr kt kr) (add_lo cr kr) = -1) (e4 : cmpv (add_hi ct cr kt kr) (add_lo cr kr) ct cr = 1) (w : World) :
    Calls Try.prog 6 #[.int .u64 ct, .int .u64 cr, .int .u64 dt, .int .u64 dr, .int .u64 kt, .int .u64 kr] w fun e w' => e = .returned (.bool true) ∧ Grown w w' := by
  go_enter Try.func6, Try.ntmps6
  go_wp2_with (first
    | (go_at_call 16; refine (clockOf_any _ _ _).mono ?_; rintro e w' ⟨rfl, rfl⟩)
    | (go_at_call 19; refine (add128_w _ _ _ _ _).mono ?_; rintro e w' ⟨rfl, rfl⟩))
  go_region_held3 (fun w' => w'.cell? ⟨w.heap.size + 1, 0, none⟩ = some (.int .u64 ct) ∧ w'.cell? ⟨w.heap.size + 1, 1, none⟩ = some (.int .u64 cr)
      ∧ w'.cell? ⟨w.heap.size + 1 + 1 + 1, 0, none⟩ = some (.int .u64 dt) ∧ w'.cell? ⟨w.heap.size + 1 + 1 + 1, 1, none⟩ = some (.int .u64 dr)
      ∧ w'.cell? ⟨w.heap.size + 1 + 1 + 1 + 1 + 1, 0, none⟩ = some (.int .u64 (add_hi ct cr kt kr)) ∧ w'.cell? ⟨w.heap.size + 1 + 1 + 1 + 1 + 1, 1, none⟩ = some (.int .u64 (add_lo cr kr))
      ∧ w'.cell? ⟨w.heap.size + 1 + 1 + 1 + 1 + 1 + 1 + 1, 0, none⟩ = some (.int .u64 (add_hi dt dr kt kr)) ∧ w'.cell? ⟨w.heap.size + 1 + 1 + 1 + 1 + 1 + 1 + 1, 1, none⟩ = some (.int .u64 (add_lo dr kr)))
    (simp [go_sem, World.cell?_alloc_past])
    (first | (go_at_call 18; refine (compare_any _ _ _ _ _).mono ?_; rintro e w' ⟨rfl, rfl⟩))
  go_wp2
  go_ret
  exact ⟨rfl, grown16 w _ _ _ _ _ _ _ _ _ _ _ _ _ _ _ _ _ _ _ _ _ _ _ _ _ _ _ _ _ _ _ _⟩

set_option maxHeartbeats 1600000 in
theorem up_r (ct cr dt dr kr v : Int) (hc : add_co ct cr 0 kr = 0) (hd : add_co dt dr 0 kr = 0) (hk : (kr == 0) = false)
    (e1 : cmpv (add_hi ct cr 0 kr) (add_lo cr kr) (add_hi dt dr 0 kr) (add_lo dr kr) = v) (e2 : cmpv ct cr dt dr = v)
    (e3 : cmpv ct cr (add_hi ct cr 0 kr) (add_lo cr kr) = -1) (e4 : cmpv (add_hi ct cr 0 kr) (add_lo cr kr) ct cr = 1) (w : World) :
    Calls Try.prog 6 #[.int .u64 ct, .int .u64 cr, .int .u64 dt, .int .u64 dr, .int .u64 0, .int .u64 kr] w fun e w' => e = .returned (.bool true) ∧ Grown w w' := by
  go_enter Try.func6, Try.ntmps6
  go_wp2_with (first
    | (go_at_call 16; refine (clockOf_any _ _ _).mono ?_; rintro e w' ⟨rfl, rfl⟩)
    | (go_at_call 19; refine (add128_w _ _ _ _ _).mono ?_; rintro e w' ⟨rfl, rfl⟩))
  go_region_held3 (fun w' => w'.cell? ⟨w.heap.size + 1, 0, none⟩ = some (.int .u64 ct) ∧ w'.cell? ⟨w.heap.size + 1, 1, none⟩ = some (.int .u64 cr)
      ∧ w'.cell? ⟨w.heap.size + 1 + 1 + 1, 0, none⟩ = some (.int .u64 dt) ∧ w'.cell? ⟨w.heap.size + 1 + 1 + 1, 1, none⟩ = some (.int .u64 dr)
      ∧ w'.cell? ⟨w.heap.size + 1 + 1 + 1 + 1 + 1, 0, none⟩ = some (.int .u64 (add_hi ct cr 0 kr)) ∧ w'.cell? ⟨w.heap.size + 1 + 1 + 1 + 1 + 1, 1, none⟩ = some (.int .u64 (add_lo cr kr))
      ∧ w'.cell? ⟨w.heap.size + 1 + 1 + 1 + 1 + 1 + 1 + 1, 0, none⟩ = some (.int .u64 (add_hi dt dr 0 kr)) ∧ w'.cell? ⟨w.heap.size + 1 + 1 + 1 + 1 + 1 + 1 + 1, 1, none⟩ = some (.int .u64 (add_lo dr kr)))
    (simp [go_sem, World.cell?_alloc_past])
    (first | (go_at_call 18; refine (compare_any _ _ _ _ _).mono ?_; rintro e w' ⟨rfl, rfl⟩))
  go_wp2
  go_ret
  exact ⟨rfl, grown16 w _ _ _ _ _ _ _ _ _ _ _ _ _ _ _ _ _ _ _ _ _ _ _ _ _ _ _ _ _ _ _ _⟩

set_option maxHeartbeats 1600000 in
theorem stay (ct cr dt dr v : Int) (hc : add_co ct cr 0 0 = 0) (hd : add_co dt dr 0 0 = 0)
    (e1 : cmpv (add_hi ct cr 0 0) (add_lo cr 0) (add_hi dt dr 0 0) (add_lo dr 0) = v) (e2 : cmpv ct cr dt dr = v)
    (e3 : cmpv ct cr (add_hi ct cr 0 0) (add_lo cr 0) = 0) (e4 : cmpv (add_hi ct cr 0 0) (add_lo cr 0) ct cr = 0) (w : World) :
    Calls Try.prog 6 #[.int .u64 ct, .int .u64 cr, .int .u64 dt, .int .u64 dr, .int .u64 0, .int .u64 0] w fun e w' => e = .returned (.bool true) ∧ Grown w w' := by
  go_enter Try.func6, Try.ntmps6
  go_wp2_with (first
    | (go_at_call 16; refine (clockOf_any _ _ _).mono ?_; rintro e w' ⟨rfl, rfl⟩)
    | (go_at_call 19; refine (add128_w _ _ _ _ _).mono ?_; rintro e w' ⟨rfl, rfl⟩))
  go_region_held3 (fun w' => w'.cell? ⟨w.heap.size + 1, 0, none⟩ = some (.int .u64 ct) ∧ w'.cell? ⟨w.heap.size + 1, 1, none⟩ = some (.int .u64 cr)
      ∧ w'.cell? ⟨w.heap.size + 1 + 1 + 1, 0, none⟩ = some (.int .u64 dt) ∧ w'.cell? ⟨w.heap.size + 1 + 1 + 1, 1, none⟩ = some (.int .u64 dr)
      ∧ w'.cell? ⟨w.heap.size + 1 + 1 + 1 + 1 + 1, 0, none⟩ = some (.int .u64 (add_hi ct cr 0 0)) ∧ w'.cell? ⟨w.heap.size + 1 + 1 + 1 + 1 + 1, 1, none⟩ = some (.int .u64 (add_lo cr 0))
      ∧ w'.cell? ⟨w.heap.size + 1 + 1 + 1 + 1 + 1 + 1 + 1, 0, none⟩ = some (.int .u64 (add_hi dt dr 0 0)) ∧ w'.cell? ⟨w.heap.size + 1 + 1 + 1 + 1 + 1 + 1 + 1, 1, none⟩ = some (.int .u64 (add_lo dr 0)))
    (simp [go_sem, World.cell?_alloc_past])
    (first | (go_at_call 18; refine (compare_any _ _ _ _ _).mono ?_; rintro e w' ⟨rfl, rfl⟩))
  go_wp2
  go_ret
  exact ⟨rfl, grown16 w _ _ _ _ _ _ _ _ _ _ _ _ _ _ _ _ _ _ _ _ _ _ _ _ _ _ _ _ _ _ _ _⟩

theorem word_of {a : Int} (h : (Lit.int .u64 a).wf = true) : Word a := by
  have hb := bounds_u64 h
  unfold Word; omega

theorem walk (a0 : Int) (a1 : Int) (a2 : Int) (a3 : Int) (a4 : Int) (a5 : Int) (w0 : (Lit.int .u64 a0).wf = true) (w1 : (Lit.int .u64 a1).wf = true) (w2 : (Lit.int .u64 a2).wf = true) (w3 : (Lit.int .u64 a3).wf = true) (w4 : (Lit.int .u64 a4).wf = true) (w5 : (Lit.int .u64 a5).wf = true) (w : World) :
    Calls Try.prog 6 #[.int .u64 a0, .int .u64 a1, .int .u64 a2, .int .u64 a3, .int .u64 a4, .int .u64 a5] w fun e w' => e = .returned (.bool true) ∧ Grown w w' := by
  have h0 := word_of w0
  have h1 := word_of w1
  have h2 := word_of w2
  have h3 := word_of w3
  have h4 := word_of w4
  have h5 := word_of w5
  by_cases hc : add_co a0 a1 a4 a5 = 0
  · by_cases hd : add_co a2 a3 a4 a5 = 0
    · have e1 := shift_same a0 a1 a2 a3 a4 a5 h0 h1 h2 h3 h4 h5 hc hd
      by_cases hk : a4 = 0
      · subst hk
        by_cases hr : a5 = 0
        · subst hr
          obtain ⟨z1, z2⟩ := shift_none a0 a1 h0 h1
          exact stay a0 a1 a2 a3 _ hc hd e1 rfl (by rw [z1, z2]; exact cmpv_self a0 a1) (by rw [z1, z2]; exact cmpv_self a0 a1) w
        · have e3 := shift_up a0 a1 0 a5 h0 h1 h4 h5 hc (Or.inr hr)
          exact up_r a0 a1 a2 a3 a5 _ hc hd (by simpa using hr) e1 rfl e3 (by rw [cmpv_neg, e3]; rfl) w
      · have e3 := shift_up a0 a1 a4 a5 h0 h1 h4 h5 hc (Or.inl hk)
        exact up_t a0 a1 a2 a3 a4 a5 _ hc hd (by simpa using hk) e1 rfl e3 (by rw [cmpv_neg, e3]; rfl) w
    · exact over_d a0 a1 a2 a3 a4 a5 hc (by simpa using hd) w
  · exact over_c a0 a1 a2 a3 a4 a5 (by simpa using hc) w

/-! ### THE ROW's STEP: WRITTEN OUT: LEAVE IT -/
set_option maxRecDepth 100000 in
theorem lifted (os : Os) (started : os.Started) (H : Type) (enc : TypeId × Value → H) :
    ReturnsInHanded {} Try.checked os 6 .any (Rows.fnClockCompareShiftInvariantSpec.pre6 enc Try.prog Try.f6 Rows.fnClockCompareShiftInvariantRow.domain false) (Rows.fnClockCompareShiftInvariantSpec.post enc Try.prog Try.f6 false true false false) := by
  refine returnsInHanded_of_change (C := Try.checked) own started (by kernel_rfl) Try.func6
    (ChangeSpec.witness6 (enc := enc) (C := Try.checked) false ⟨#[], #[.int .u64 0, .int .u64 0, .int .u64 0, .int .u64 0, .int .u64 0, .int .u64 0], []⟩ 8 (by kernel_rfl) (by kernel_rfl) (by kernel_rfl) (by kernel_rfl)) ?_
  intro W base args ds gs before hval0 hW hcnd _
  have hval : ∀ (j : Nat) t v, Try.f6.params[j]? = some t → args[j]? = some v → Value.okWide Try.prog W .any base t v := hval0
  have hW' := hW
  obtain ⟨p, q, hA0, hV, rfl, hfz, hnd⟩ := hW
  have hA : DataW.TrodAll enc Try.prog W 0 (fun _ => true) true Try.f6.params.toList args.toList ds p := hA0
  rw [Try.params6] at hA hval
  obtain ⟨v0, vs0, d0, ds0, p0, q0, hargs, rfl, rfl, h0, r0⟩ := trodAll_cons hA
  obtain ⟨v1, vs1, d1, ds1, p1, q1, rfl, rfl, rfl, h1, r1⟩ := trodAll_cons r0
  obtain ⟨v2, vs2, d2, ds2, p2, q2, rfl, rfl, rfl, h2, r2⟩ := trodAll_cons r1
  obtain ⟨v3, vs3, d3, ds3, p3, q3, rfl, rfl, rfl, h3, r3⟩ := trodAll_cons r2
  obtain ⟨v4, vs4, d4, ds4, p4, q4, rfl, rfl, rfl, h4, r4⟩ := trodAll_cons r3
  obtain ⟨v5, vs5, d5, ds5, p5, q5, rfl, rfl, rfl, h5, r5⟩ := trodAll_cons r4
  obtain ⟨rfl, rfl, rfl⟩ := trodAll_nil r5
  obtain rfl : args = #[v0, v1, v2, v3, v4, v5] := by cases args; simp_all
  obtain ⟨rfl, rfl⟩ := trodVars_none hV
  obtain ⟨a0, rfl, rfl, rfl, w0⟩ := open_int Try.underlying23 (hval 0 23 v0 rfl rfl) h0
  obtain ⟨a1, rfl, rfl, rfl, w1⟩ := open_int Try.underlying23 (hval 1 23 v1 rfl rfl) h1
  obtain ⟨a2, rfl, rfl, rfl, w2⟩ := open_int Try.underlying23 (hval 2 23 v2 rfl rfl) h2
  obtain ⟨a3, rfl, rfl, rfl, w3⟩ := open_int Try.underlying23 (hval 3 23 v3 rfl rfl) h3
  obtain ⟨a4, rfl, rfl, rfl, w4⟩ := open_int Try.underlying23 (hval 4 23 v4 rfl rfl) h4
  obtain ⟨a5, rfl, rfl, rfl, w5⟩ := open_int Try.underlying23 (hval 5 23 v5 rfl rfl) h5
  clear hA0 hval0
  simp only [List.append_nil] at hW'
  refine (walk a0 a1 a2 a3 a4 a5 w0 w1 w2 w3 w4 w5 W).mono fun e W' ⟨he, hg⟩ => ?_
  subst he
  exact ⟨_, rfl, post_of_same (pa := []) (pv := []) hW' (fun _ _ _ => (trodAll_cons_mk (shut_bool Try.underlying4 _) trodAll_mk0)) (fun sp _ => (trodAll_cons_mk (shut_int Try.underlying23 w0) (trodAll_cons_mk (shut_int Try.underlying23 w1) (trodAll_cons_mk (shut_int Try.underlying23 w2) (trodAll_cons_mk (shut_int Try.underlying23 w3) (trodAll_cons_mk (shut_int Try.underlying23 w4) (trodAll_cons_mk (shut_int Try.underlying23 w5) trodAll_mk0))))))) (fun _ _ => rfl) rfl
    (hg.frame _) hg.2.1 (ok_one (by kernel_rfl) rfl (okWide_bool_mk Try.underlying4 _))⟩

theorem over : Rows.fnClockCompareShiftInvariantRow.holds Try.pinned (OpenSpec.ofChange Rows.fnClockCompareShiftInvariantSpec) :=
  OpenClaim.holds_of_wide 6 Try.f6 rfl rfl rfl rfl rfl rfl rfl ⟨rfl, rfl, rfl, rfl, rfl⟩ rfl rfl rfl rfl rfl (by kernel_rfl) Try.func6 (by kernel_rfl)
    (of_decide_eq_true (by kernel_rfl)) (by unfold Func.isWrapper; first | (rw [if_pos (by decide +kernel)]; kernel_rfl) | (rw [if_neg (by decide +kernel)]; exact ⟨rfl, rfl⟩))
    (fun os started H enc _ => lifted os started H enc)

/-- ████ THE STATEMENT ████ -/
theorem proved : Rows.FnClockCompareShiftInvariantSaid :=
  over
#print axioms proved
end Go.Proofs.Qxb6619539a.fnClockCompareShiftInvariant
