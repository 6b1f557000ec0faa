/-
  THE PROOF OF 'Rows.FnCmpOneStepAboveIsNextValueSaid': the frame is the guide's template as the seat's shell lays it; the walk is ours.
-/
import Derived.Test.Qxb6623265aRows
import Derived.Test.Qxb6623265aCalls
import Derived.WalkSpells
import Derived.RowKit3
import Derived.WalkKit
import Derived.ProofKit
import Derived.OpenShut
import Derived.ShutString
namespace Go.Proofs.Qxb6623265a.fnCmpOneStepAboveIsNextValue
open Go.ChangeShapes Go.WideShapes Go.ChangeAt Go.RowKit
open Go.ChangeMaps (open_string shut_string)
set_option linter.unusedVariables false      -- a walk need not use every 'w<i>' (that an integer argument fits its kind)

theorem own : ownKnob Try.prog.godebug = none := by kernel_rfl

/-! ### The plain law of one step up -/
/-- a + 1 as a pair of words, a not the greatest pair. -/
theorem step_cases (ah al : Int) (h0 : Word ah) (h1 : Word al) (hn : ¬ (ah = 18446744073709551615 ∧ al = 18446744073709551615)) :
    (a_hi ah al = ah ∧ a_lo al = al + 1) ∨ (al = 18446744073709551615 ∧ a_hi ah al = ah + 1 ∧ a_lo al = 0) := by
  obtain ⟨_, _⟩ := h0; obtain ⟨_, _⟩ := h1
  unfold a_hi a_lo a_c
  omega
theorem step_up (ah al : Int) (h0 : Word ah) (h1 : Word al) (hn : ¬ (ah = 18446744073709551615 ∧ al = 18446744073709551615)) : cmpv ah al (a_hi ah al) (a_lo al) = -1 := by
  rw [cmpv_lt]
  rcases step_cases ah al h0 h1 hn with ⟨p, q⟩ | ⟨r, p, q⟩ <;> rw [p, q] <;> omega
/-- a is below b: the next value is at most b. -/
theorem step_below (ah al bh bl : Int) (h0 : Word ah) (h1 : Word al) (h2 : Word bh) (h3 : Word bl) (hn : ¬ (ah = 18446744073709551615 ∧ al = 18446744073709551615)) (h : cmpv ah al bh bl = -1) :
    cmpv (a_hi ah al) (a_lo al) bh bl = -1 ∨ cmpv (a_hi ah al) (a_lo al) bh bl = 0 := by
  rcases cmpv_three (a_hi ah al) (a_lo al) bh bl with x | x | x
  · exact Or.inl x
  · rw [cmpv_gt] at x
    rw [cmpv_lt] at h
    obtain ⟨_, _⟩ := h3; obtain ⟨_, _⟩ := h1
    rcases step_cases ah al h0 ⟨‹_›, ‹_›⟩ hn with ⟨p, q⟩ | ⟨r, p, q⟩ <;> rw [p, q] at x <;> omega
  · obtain ⟨p, q⟩ := x
    rw [p, q]; exact Or.inr (cmpv_self bh bl)
/-- a is not below b: the next value is above b. -/
theorem step_above (ah al bh bl : Int) (h0 : Word ah) (h1 : Word al) (hn : ¬ (ah = 18446744073709551615 ∧ al = 18446744073709551615)) (h : bh < ah ∨ (ah = bh ∧ bl ≤ al)) :
    cmpv (a_hi ah al) (a_lo al) bh bl = 1 := by
  rw [cmpv_gt]
  rcases step_cases ah al h0 h1 hn with ⟨p, q⟩ | ⟨r, p, q⟩ <;> rw [p, q] <;> omega

/-! ### STEP 1: THE WALK: the Go text returns true -/
/-- Ten new blocks. -/
theorem grown10 (w : World) (c0 : Array Value) (t0 : TypeId) (c1 : Array Value) (t1 : TypeId) (c2 : Array Value) (t2 : TypeId) (c3 : Array Value) (t3 : TypeId) (c4 : Array Value) (t4 : TypeId) (c5 : Array Value) (t5 : TypeId) (c6 : Array Value) (t6 : TypeId) (c7 : Array Value) (t7 : TypeId) (c8 : Array Value) (t8 : TypeId) (c9 : Array Value) (t9 : TypeId) :
    Grown w ((((((((((w.alloc (.cells c0 t0)).alloc (.cells c1 t1)).alloc (.cells c2 t2)).alloc (.cells c3 t3)).alloc (.cells c4 t4)).alloc (.cells c5 t5)).alloc (.cells c6 t6)).alloc (.cells c7 t7)).alloc (.cells c8 t8)).alloc (.cells c9 t9)) :=
  (((((((((((Grown.refl _).alloc _ _).alloc _ _).alloc _ _).alloc _ _).alloc _ _).alloc _ _).alloc _ _).alloc _ _).alloc _ _).alloc _ _)

/-- a is the greatest value: nothing is asked. -/
theorem greatest (ah al bh bl : Int) (ht : (ah == 18446744073709551615) = true) (hu : (al == 18446744073709551615) = true) (w : World) :
    Calls Try.prog 4 #[.int .u64 ah, .int .u64 al, .int .u64 bh, .int .u64 bl] w fun e w' => e = .returned (.bool true) ∧ Grown w w' := by
  go_enter Try.func4, Try.ntmps4
  go_wp2
  go_ret
  exact ⟨rfl, Grown.refl _⟩

set_option maxHeartbeats 800000 in
theorem lt_lt_1 (ah al bh bl : Int) (h0 : Word ah) (h1 : Word al) (ht : (ah == 18446744073709551615) = false)
    (e1 : cmpv ah al (a_hi ah al) (a_lo al) = -1) (e2 : cmpv (a_hi ah al) (a_lo al) ah al = 1)
    (e3 : cmpv ah al bh bl = -1) (e4 : cmpv bh bl ah al = 1) (e5 : cmpv (a_hi ah al) (a_lo al) bh bl = -1) (w : World) :
    Calls Try.prog 4 #[.int .u64 ah, .int .u64 al, .int .u64 bh, .int .u64 bl] w fun e w' => e = .returned (.bool true) ∧ Grown w w' := by
  go_enter Try.func4, Try.ntmps4
  go_wp2_with (first
    | (go_at_call 5; refine (cmp_any _ _ _ _ _).mono ?_; rintro e w' ⟨rfl, rfl⟩)
    | simp only [add_low al h1]
    | simp only [add_high ah al h0 h1])
  go_ret
  exact ⟨rfl, grown10 w _ _ _ _ _ _ _ _ _ _ _ _ _ _ _ _ _ _ _ _⟩

set_option maxHeartbeats 800000 in
theorem lt_eq_1 (ah al bh bl : Int) (h0 : Word ah) (h1 : Word al) (ht : (ah == 18446744073709551615) = false)
    (e1 : cmpv ah al (a_hi ah al) (a_lo al) = -1) (e2 : cmpv (a_hi ah al) (a_lo al) ah al = 1)
    (e3 : cmpv ah al bh bl = -1) (e4 : cmpv bh bl ah al = 1) (e5 : cmpv (a_hi ah al) (a_lo al) bh bl = 0) (w : World) :
    Calls Try.prog 4 #[.int .u64 ah, .int .u64 al, .int .u64 bh, .int .u64 bl] w fun e w' => e = .returned (.bool true) ∧ Grown w w' := by
  go_enter Try.func4, Try.ntmps4
  go_wp2_with (first
    | (go_at_call 5; refine (cmp_any _ _ _ _ _).mono ?_; rintro e w' ⟨rfl, rfl⟩)
    | simp only [add_low al h1]
    | simp only [add_high ah al h0 h1])
  go_ret
  exact ⟨rfl, grown10 w _ _ _ _ _ _ _ _ _ _ _ _ _ _ _ _ _ _ _ _⟩

set_option maxHeartbeats 800000 in
theorem eq_gt_1 (ah al bh bl : Int) (h0 : Word ah) (h1 : Word al) (ht : (ah == 18446744073709551615) = false)
    (e1 : cmpv ah al (a_hi ah al) (a_lo al) = -1) (e2 : cmpv (a_hi ah al) (a_lo al) ah al = 1)
    (e3 : cmpv ah al bh bl = 0) (e4 : cmpv bh bl ah al = 0) (e5 : cmpv (a_hi ah al) (a_lo al) bh bl = 1) (w : World) :
    Calls Try.prog 4 #[.int .u64 ah, .int .u64 al, .int .u64 bh, .int .u64 bl] w fun e w' => e = .returned (.bool true) ∧ Grown w w' := by
  go_enter Try.func4, Try.ntmps4
  go_wp2_with (first
    | (go_at_call 5; refine (cmp_any _ _ _ _ _).mono ?_; rintro e w' ⟨rfl, rfl⟩)
    | simp only [add_low al h1]
    | simp only [add_high ah al h0 h1])
  go_ret
  exact ⟨rfl, grown10 w _ _ _ _ _ _ _ _ _ _ _ _ _ _ _ _ _ _ _ _⟩

set_option maxHeartbeats 800000 in
theorem gt_gt_1 (ah al bh bl : Int) (h0 : Word ah) (h1 : Word al) (ht : (ah == 18446744073709551615) = false)
    (e1 : cmpv ah al (a_hi ah al) (a_lo al) = -1) (e2 : cmpv (a_hi ah al) (a_lo al) ah al = 1)
    (e3 : cmpv ah al bh bl = 1) (e4 : cmpv bh bl ah al = -1) (e5 : cmpv (a_hi ah al) (a_lo al) bh bl = 1) (w : World) :
    Calls Try.prog 4 #[.int .u64 ah, .int .u64 al, .int .u64 bh, .int .u64 bl] w fun e w' => e = .returned (.bool true) ∧ Grown w w' := by
  go_enter Try.func4, Try.ntmps4
  go_wp2_with (first
    | (go_at_call 5; refine (cmp_any _ _ _ _ _).mono ?_; rintro e w' ⟨rfl, rfl⟩)
    | simp only [add_low al h1]
    | simp only [add_high ah al h0 h1])
  go_ret
  exact ⟨rfl, grown10 w _ _ _ _ _ _ _ _ _ _ _ _ _ _ _ _ _ _ _ _⟩

set_option maxHeartbeats 800000 in
theorem lt_lt_2 (ah al bh bl : Int) (h0 : Word ah) (h1 : Word al) (ht : (ah == 18446744073709551615) = true) (hu : (al == 18446744073709551615) = false)
    (e1 : cmpv ah al (a_hi ah al) (a_lo al) = -1) (e2 : cmpv (a_hi ah al) (a_lo al) ah al = 1)
    (e3 : cmpv ah al bh bl = -1) (e4 : cmpv bh bl ah al = 1) (e5 : cmpv (a_hi ah al) (a_lo al) bh bl = -1) (w : World) :
    Calls Try.prog 4 #[.int .u64 ah, .int .u64 al, .int .u64 bh, .int .u64 bl] w fun e w' => e = .returned (.bool true) ∧ Grown w w' := by
  go_enter Try.func4, Try.ntmps4
  go_wp2_with (first
    | (go_at_call 5; refine (cmp_any _ _ _ _ _).mono ?_; rintro e w' ⟨rfl, rfl⟩)
    | simp only [add_low al h1]
    | simp only [add_high ah al h0 h1])
  go_ret
  exact ⟨rfl, grown10 w _ _ _ _ _ _ _ _ _ _ _ _ _ _ _ _ _ _ _ _⟩

set_option maxHeartbeats 800000 in
theorem lt_eq_2 (ah al bh bl : Int) (h0 : Word ah) (h1 : Word al) (ht : (ah == 18446744073709551615) = true) (hu : (al == 18446744073709551615) = false)
    (e1 : cmpv ah al (a_hi ah al) (a_lo al) = -1) (e2 : cmpv (a_hi ah al) (a_lo al) ah al = 1)
    (e3 : cmpv ah al bh bl = -1) (e4 : cmpv bh bl ah al = 1) (e5 : cmpv (a_hi ah al) (a_lo al) bh bl = 0) (w : World) :
    Calls Try.prog 4 #[.int .u64 ah, .int .u64 al, .int .u64 bh, .int .u64 bl] w fun e w' => e = .returned (.bool true) ∧ Grown w w' := by
  go_enter Try.func4, Try.ntmps4
  go_wp2_with (first
    | (go_at_call 5; refine (cmp_any _ _ _ _ _).mono ?_; rintro e w' ⟨rfl, rfl⟩)
    | simp only [add_low al h1]
    | simp only [add_high ah al h0 h1])
  go_ret
  exact ⟨rfl, grown10 w _ _ _ _ _ _ _ _ _ _ _ _ _ _ _ _ _ _ _ _⟩

set_option maxHeartbeats 800000 in
theorem eq_gt_2 (ah al bh bl : Int) (h0 : Word ah) (h1 : Word al) (ht : (ah == 18446744073709551615) = true) (hu : (al == 18446744073709551615) = false)
    (e1 : cmpv ah al (a_hi ah al) (a_lo al) = -1) (e2 : cmpv (a_hi ah al) (a_lo al) ah al = 1)
    (e3 : cmpv ah al bh bl = 0) (e4 : cmpv bh bl ah al = 0) (e5 : cmpv (a_hi ah al) (a_lo al) bh bl = 1) (w : World) :
    Calls Try.prog 4 #[.int .u64 ah, .int .u64 al, .int .u64 bh, .int .u64 bl] w fun e w' => e = .returned (.bool true) ∧ Grown w w' := by
  go_enter Try.func4, Try.ntmps4
  go_wp2_with (first
    | (go_at_call 5; refine (cmp_any _ _ _ _ _).mono ?_; rintro e w' ⟨rfl, rfl⟩)
    | simp only [add_low al h1]
    | simp only [add_high ah al h0 h1])
  go_ret
  exact ⟨rfl, grown10 w _ _ _ _ _ _ _ _ _ _ _ _ _ _ _ _ _ _ _ _⟩

set_option maxHeartbeats 800000 in
theorem gt_gt_2 (ah al bh bl : Int) (h0 : Word ah) (h1 : Word al) (ht : (ah == 18446744073709551615) = true) (hu : (al == 18446744073709551615) = false)
    (e1 : cmpv ah al (a_hi ah al) (a_lo al) = -1) (e2 : cmpv (a_hi ah al) (a_lo al) ah al = 1)
    (e3 : cmpv ah al bh bl = 1) (e4 : cmpv bh bl ah al = -1) (e5 : cmpv (a_hi ah al) (a_lo al) bh bl = 1) (w : World) :
    Calls Try.prog 4 #[.int .u64 ah, .int .u64 al, .int .u64 bh, .int .u64 bl] w fun e w' => e = .returned (.bool true) ∧ Grown w w' := by
  go_enter Try.func4, Try.ntmps4
  go_wp2_with (first
    | (go_at_call 5; refine (cmp_any _ _ _ _ _).mono ?_; rintro e w' ⟨rfl, rfl⟩)
    | simp only [add_low al h1]
    | simp only [add_high ah al h0 h1])
  go_ret
  exact ⟨rfl, grown10 w _ _ _ _ _ _ _ _ _ _ _ _ _ _ _ _ _ _ _ _⟩

theorem word_of {a : Int} (h : (Lit.int .u64 a).wf = true) : Word a := by
  have hb := bounds_u64 h
  unfold Word; omega

theorem walk (a0 : Int) (a1 : Int) (a2 : Int) (a3 : Int) (w0 : (Lit.int .u64 a0).wf = true) (w1 : (Lit.int .u64 a1).wf = true) (w2 : (Lit.int .u64 a2).wf = true) (w3 : (Lit.int .u64 a3).wf = true) (w : World) :
    Calls Try.prog 4 #[.int .u64 a0, .int .u64 a1, .int .u64 a2, .int .u64 a3] w fun e w' => e = .returned (.bool true) ∧ Grown w w' := by
  have h0 := word_of w0
  have h1 := word_of w1
  have h2 := word_of w2
  have h3 := word_of w3
  by_cases hn : a0 = 18446744073709551615 ∧ a1 = 18446744073709551615
  · exact greatest a0 a1 a2 a3 (by rw [hn.1]; rfl) (by rw [hn.2]; rfl) w
  have e1 := step_up a0 a1 h0 h1 hn
  have e2 : cmpv (a_hi a0 a1) (a_lo a1) a0 a1 = 1 := by rw [cmpv_neg, e1]; rfl
  have e4 := cmpv_neg a0 a1 a2 a3
  by_cases ht : a0 = 18446744073709551615
  · have hu : (a1 == 18446744073709551615) = false := by rw [beq_eq_false_iff_ne]; exact fun x => hn ⟨ht, x⟩
    have ht' : (a0 == 18446744073709551615) = true := by rw [ht]; rfl
    rcases cmpv_three a0 a1 a2 a3 with h | h | ⟨x, y⟩
    · rcases step_below a0 a1 a2 a3 h0 h1 h2 h3 hn h with g | g
      · exact lt_lt_2 a0 a1 a2 a3 h0 h1 ht' hu e1 e2 h (by rw [e4, h]; rfl) g w
      · exact lt_eq_2 a0 a1 a2 a3 h0 h1 ht' hu e1 e2 h (by rw [e4, h]; rfl) g w
    · exact gt_gt_2 a0 a1 a2 a3 h0 h1 ht' hu e1 e2 h (by rw [e4, h]) (step_above a0 a1 a2 a3 h0 h1 hn (by rw [cmpv_gt] at h; omega)) w
    · have h : cmpv a0 a1 a2 a3 = 0 := by rw [x, y]; exact cmpv_self a2 a3
      exact eq_gt_2 a0 a1 a2 a3 h0 h1 ht' hu e1 e2 h (by rw [e4, h]; rfl) (step_above a0 a1 a2 a3 h0 h1 hn (by omega)) w
  · have ht' : (a0 == 18446744073709551615) = false := by rw [beq_eq_false_iff_ne]; exact ht
    rcases cmpv_three a0 a1 a2 a3 with h | h | ⟨x, y⟩
    · rcases step_below a0 a1 a2 a3 h0 h1 h2 h3 hn h with g | g
      · exact lt_lt_1 a0 a1 a2 a3 h0 h1 ht' e1 e2 h (by rw [e4, h]; rfl) g w
      · exact lt_eq_1 a0 a1 a2 a3 h0 h1 ht' e1 e2 h (by rw [e4, h]; rfl) g w
    · exact gt_gt_1 a0 a1 a2 a3 h0 h1 ht' e1 e2 h (by rw [e4, h]) (step_above a0 a1 a2 a3 h0 h1 hn (by rw [cmpv_gt] at h; omega)) w
    · have h : cmpv a0 a1 a2 a3 = 0 := by rw [x, y]; exact cmpv_self a2 a3
      exact eq_gt_1 a0 a1 a2 a3 h0 h1 ht' e1 e2 h (by rw [e4, h]; rfl) (step_above a0 a1 a2 a3 h0 h1 hn (by omega)) w

/-! ### THE ROW's STEP: WRITTEN OUT: LEAVE IT -/
set_option maxRecDepth 100000 in
theorem lifted (os : Os) (started : os.Started) (H : Type) (enc : TypeId × Value → H) :
    ReturnsInHanded {} Try.checked os 4 .any (Rows.fnCmpOneStepAboveIsNextValueSpec.pre6 enc Try.prog Try.f4 Rows.fnCmpOneStepAboveIsNextValueRow.domain false) (Rows.fnCmpOneStepAboveIsNextValueSpec.post enc Try.prog Try.f4 false true false false) := by
  refine returnsInHanded_of_change (C := Try.checked) own started (by kernel_rfl) Try.func4
    (ChangeSpec.witness6 (enc := enc) (C := Try.checked) false ⟨#[], #[.int .u64 0, .int .u64 0, .int .u64 0, .int .u64 0], []⟩ 8 (by kernel_rfl) (by kernel_rfl) (by kernel_rfl) (by kernel_rfl)) ?_
  intro W base args ds gs before hval0 hW hcnd _
  have hval : ∀ (j : Nat) t v, Try.f4.params[j]? = some t → args[j]? = some v → Value.okWide Try.prog W .any base t v := hval0
  have hW' := hW
  obtain ⟨p, q, hA0, hV, rfl, hfz, hnd⟩ := hW
  have hA : DataW.TrodAll enc Try.prog W 0 (fun _ => true) true Try.f4.params.toList args.toList ds p := hA0
  rw [Try.params4] at hA hval
  obtain ⟨v0, vs0, d0, ds0, p0, q0, hargs, rfl, rfl, h0, r0⟩ := trodAll_cons hA
  obtain ⟨v1, vs1, d1, ds1, p1, q1, rfl, rfl, rfl, h1, r1⟩ := trodAll_cons r0
  obtain ⟨v2, vs2, d2, ds2, p2, q2, rfl, rfl, rfl, h2, r2⟩ := trodAll_cons r1
  obtain ⟨v3, vs3, d3, ds3, p3, q3, rfl, rfl, rfl, h3, r3⟩ := trodAll_cons r2
  obtain ⟨rfl, rfl, rfl⟩ := trodAll_nil r3
  obtain rfl : args = #[v0, v1, v2, v3] := by cases args; simp_all
  obtain ⟨rfl, rfl⟩ := trodVars_none hV
  obtain ⟨a0, rfl, rfl, rfl, w0⟩ := open_int Try.underlying22 (hval 0 22 v0 rfl rfl) h0
  obtain ⟨a1, rfl, rfl, rfl, w1⟩ := open_int Try.underlying22 (hval 1 22 v1 rfl rfl) h1
  obtain ⟨a2, rfl, rfl, rfl, w2⟩ := open_int Try.underlying22 (hval 2 22 v2 rfl rfl) h2
  obtain ⟨a3, rfl, rfl, rfl, w3⟩ := open_int Try.underlying22 (hval 3 22 v3 rfl rfl) h3
  clear hA0 hval0
  simp only [List.append_nil] at hW'
  refine (walk a0 a1 a2 a3 w0 w1 w2 w3 W).mono fun e W' ⟨he, hg⟩ => ?_
  subst he
  exact ⟨_, rfl, post_of_same (pa := []) (pv := []) hW' (fun _ _ _ => (trodAll_cons_mk (shut_bool Try.underlying4 _) trodAll_mk0)) (fun sp _ => (trodAll_cons_mk (shut_int Try.underlying22 w0) (trodAll_cons_mk (shut_int Try.underlying22 w1) (trodAll_cons_mk (shut_int Try.underlying22 w2) (trodAll_cons_mk (shut_int Try.underlying22 w3) trodAll_mk0))))) (fun _ _ => rfl) rfl
    (hg.frame _) hg.2.1 (ok_one (by kernel_rfl) rfl (okWide_bool_mk Try.underlying4 _))⟩

theorem over : Rows.fnCmpOneStepAboveIsNextValueRow.holds Try.pinned (OpenSpec.ofChange Rows.fnCmpOneStepAboveIsNextValueSpec) :=
  OpenClaim.holds_of_wide 4 Try.f4 rfl rfl rfl rfl rfl rfl rfl ⟨rfl, rfl, rfl, rfl, rfl⟩ rfl rfl rfl rfl rfl (by kernel_rfl) Try.func4 (by kernel_rfl)
    (of_decide_eq_true (by kernel_rfl)) (by unfold Func.isWrapper; first | (rw [if_pos (by decide +kernel)]; kernel_rfl) | (rw [if_neg (by decide +kernel)]; exact ⟨rfl, rfl⟩))
    (fun os started H enc _ => lifted os started H enc)

/-- ████ THE STATEMENT ████ -/
theorem proved : Rows.FnCmpOneStepAboveIsNextValueSaid :=
  over
#print axioms proved
end Go.Proofs.Qxb6623265a.fnCmpOneStepAboveIsNextValue
