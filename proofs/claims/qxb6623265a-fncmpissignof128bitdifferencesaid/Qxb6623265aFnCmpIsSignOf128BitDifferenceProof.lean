/-
  THE PROOF OF 'Rows.FnCmpIsSignOf128BitDifferenceSaid': the frame is the guide's template as the seat's shell lays it; the walk is ours.
-/
import Derived.Test.Qxb6623265aRows
import Derived.Test.Qxb6623265aCalls
import Derived.Laws.BitsAllLaws
import Derived.WalkSpells
import Derived.RowKit3
import Derived.WalkKit
import Derived.ProofKit
import Derived.OpenShut
import Derived.ShutString
namespace Go.Proofs.Qxb6623265a.fnCmpIsSignOf128BitDifference
open Go.ChangeShapes Go.WideShapes Go.ChangeAt Go.RowKit
open Go.ChangeMaps (open_string shut_string)
set_option linter.unusedVariables false      -- a walk need not use every 'w<i>' (that an integer argument fits its kind)

theorem own : ownKnob Try.prog.godebug = none := by kernel_rfl

/-! ### The plain law of the difference -/
theorem or_zero (x y : Int) (hx : Word x) (hy : Word y) : bits BinOp.or IntKind.u64 x y = 0 ↔ x = 0 ∧ y = 0 := by
  obtain ⟨x0, x1⟩ := hx; obtain ⟨y0, y1⟩ := hy
  rw [u64_or x y x0 x1 y0 y1]
  rw [show ((x.toNat ||| y.toNat : Nat) : Int) = 0 ↔ (x.toNat ||| y.toNat) = 0 from by omega, Nat.or_eq_zero_iff]
  omega
theorem word_hi (xh xl yh yl : Int) : Word (s_hi xh xl yh yl) := by unfold Word s_hi; omega
theorem word_lo (xl yl : Int) : Word (s_lo xl yl) := by unfold Word s_lo; omega
theorem diff_below (xh xl yh yl : Int) (h : cmpv xh xl yh yl = -1) : s_bo xh xl yh yl = 1 := by
  rw [cmpv_lt] at h
  unfold s_bo s_b
  by_cases q : xl < yl
  · rw [if_pos q, if_pos (by omega)]
  · rw [if_neg q, if_pos (by omega)]
theorem diff_above (xh xl yh yl : Int) (h1 : Word xh) (h2 : Word xl) (h3 : Word yh) (h4 : Word yl) (h : cmpv xh xl yh yl = 1) :
    s_bo xh xl yh yl = 0 ∧ (bits BinOp.or IntKind.u64 (s_hi xh xl yh yl) (s_lo xl yl) == 0) = false := by
  rw [cmpv_gt] at h
  obtain ⟨_, _⟩ := h1; obtain ⟨_, _⟩ := h2; obtain ⟨_, _⟩ := h3; obtain ⟨_, _⟩ := h4
  constructor
  · unfold s_bo s_b
    by_cases q : xl < yl
    · rw [if_pos q, if_neg (by omega)]
    · rw [if_neg q, if_neg (by omega)]
  · rw [beq_eq_false_iff_ne]
    intro hz
    rw [or_zero _ _ (word_hi xh xl yh yl) (word_lo xl yl)] at hz
    unfold s_hi s_lo s_b at hz
    by_cases q : xl < yl
    · rw [if_pos q] at hz; omega
    · rw [if_neg q] at hz; omega
theorem diff_equal (xh xl : Int) : s_bo xh xl xh xl = 0 ∧ bits BinOp.or IntKind.u64 (s_hi xh xl xh xl) (s_lo xl xl) = 0 := by
  constructor
  · unfold s_bo s_b; simp
  · rw [or_zero _ _ (word_hi xh xl xh xl) (word_lo xl xl)]
    unfold s_hi s_lo s_b; simp

/-! ### STEP 1: THE WALK: the Go text returns true: the three cases of the order -/
theorem below (ah al bh bl : Int) (h0 : Word ah) (h1 : Word al) (h2 : Word bh) (h3 : Word bl) (hc : cmpv ah al bh bl = -1) (hb : s_bo ah al bh bl = 1) (w : World) :
    Calls Try.prog 3 #[.int .u64 ah, .int .u64 al, .int .u64 bh, .int .u64 bl] w fun e w' => e = .returned (.bool true) ∧ Grown w w' := by
  go_enter Try.func3, Try.ntmps3
  go_wp2_with (first
    | (go_at_call 5; refine (cmp_any _ _ _ _ _).mono ?_; rintro e w' ⟨rfl, rfl⟩)
    | simp only [sub_low al bl h1 h3]
    | simp only [sub_high ah al bh bl h0 h2])
  go_ret
  exact ⟨rfl, by repeat (first | exact Grown.refl _ | apply Grown.drew | apply Grown.alloc)⟩

theorem above (ah al bh bl : Int) (h0 : Word ah) (h1 : Word al) (h2 : Word bh) (h3 : Word bl) (hc : cmpv ah al bh bl = 1) (hb : s_bo ah al bh bl = 0)
    (hz : (bits BinOp.or IntKind.u64 (s_hi ah al bh bl) (s_lo al bl) == 0) = false) (w : World) :
    Calls Try.prog 3 #[.int .u64 ah, .int .u64 al, .int .u64 bh, .int .u64 bl] w fun e w' => e = .returned (.bool true) ∧ Grown w w' := by
  go_enter Try.func3, Try.ntmps3
  go_wp2_with (first
    | (go_at_call 5; refine (cmp_any _ _ _ _ _).mono ?_; rintro e w' ⟨rfl, rfl⟩)
    | simp only [sub_low al bl h1 h3]
    | simp only [sub_high ah al bh bl h0 h2])
  go_ret
  exact ⟨rfl, by repeat (first | exact Grown.refl _ | apply Grown.drew | apply Grown.alloc)⟩

theorem equal (ah al : Int) (h0 : Word ah) (h1 : Word al) (h2 : Word ah) (h3 : Word al) (hc : cmpv ah al ah al = 0) (hb : s_bo ah al ah al = 0)
    (hz : bits BinOp.or IntKind.u64 (s_hi ah al ah al) (s_lo al al) = 0) (w : World) :
    Calls Try.prog 3 #[.int .u64 ah, .int .u64 al, .int .u64 ah, .int .u64 al] w fun e w' => e = .returned (.bool true) ∧ Grown w w' := by
  go_enter Try.func3, Try.ntmps3
  go_wp2_with (first
    | (go_at_call 5; refine (cmp_any _ _ _ _ _).mono ?_; rintro e w' ⟨rfl, rfl⟩)
    | simp only [sub_low al al h1 h3]
    | simp only [sub_high ah al ah al h0 h2])
  go_ret
  exact ⟨rfl, by repeat (first | exact Grown.refl _ | apply Grown.drew | apply Grown.alloc)⟩

theorem word_of {a : Int} (h : (Lit.int .u64 a).wf = true) : Word a := by
  have hb := bounds_u64 h
  unfold Word; omega

theorem walk (a0 : Int) (a1 : Int) (a2 : Int) (a3 : Int) (w0 : (Lit.int .u64 a0).wf = true) (w1 : (Lit.int .u64 a1).wf = true) (w2 : (Lit.int .u64 a2).wf = true) (w3 : (Lit.int .u64 a3).wf = true) (w : World) :
    Calls Try.prog 3 #[.int .u64 a0, .int .u64 a1, .int .u64 a2, .int .u64 a3] w fun e w' => e = .returned (.bool true) ∧ Grown w w' := by
  have h0 := word_of w0
  have h1 := word_of w1
  have h2 := word_of w2
  have h3 := word_of w3
  rcases cmpv_three a0 a1 a2 a3 with h | h | ⟨rfl, rfl⟩
  · exact below a0 a1 a2 a3 h0 h1 h2 h3 h (diff_below a0 a1 a2 a3 h) w
  · obtain ⟨hb, hz⟩ := diff_above a0 a1 a2 a3 h0 h1 h2 h3 h
    exact above a0 a1 a2 a3 h0 h1 h2 h3 h hb hz w
  · obtain ⟨hb, hz⟩ := diff_equal a0 a1
    exact equal a0 a1 h0 h1 h0 h1 (cmpv_self a0 a1) hb hz w

/-! ### THE ROW's STEP: WRITTEN OUT: LEAVE IT -/
set_option maxRecDepth 100000 in
theorem lifted (os : Os) (started : os.Started) (H : Type) (enc : TypeId × Value → H) :
    ReturnsInHanded {} Try.checked os 3 .any (Rows.fnCmpIsSignOf128BitDifferenceSpec.pre6 enc Try.prog Try.f3 Rows.fnCmpIsSignOf128BitDifferenceRow.domain false) (Rows.fnCmpIsSignOf128BitDifferenceSpec.post enc Try.prog Try.f3 false true false false) := by
  refine returnsInHanded_of_change (C := Try.checked) own started (by kernel_rfl) Try.func3
    (ChangeSpec.witness6 (enc := enc) (C := Try.checked) false ⟨#[], #[.int .u64 0, .int .u64 0, .int .u64 0, .int .u64 0], []⟩ 8 (by kernel_rfl) (by kernel_rfl) (by kernel_rfl) (by kernel_rfl)) ?_
  intro W base args ds gs before hval0 hW hcnd _
  have hval : ∀ (j : Nat) t v, Try.f3.params[j]? = some t → args[j]? = some v → Value.okWide Try.prog W .any base t v := hval0
  have hW' := hW
  obtain ⟨p, q, hA0, hV, rfl, hfz, hnd⟩ := hW
  have hA : DataW.TrodAll enc Try.prog W 0 (fun _ => true) true Try.f3.params.toList args.toList ds p := hA0
  rw [Try.params3] at hA hval
  obtain ⟨v0, vs0, d0, ds0, p0, q0, hargs, rfl, rfl, h0, r0⟩ := trodAll_cons hA
  obtain ⟨v1, vs1, d1, ds1, p1, q1, rfl, rfl, rfl, h1, r1⟩ := trodAll_cons r0
  obtain ⟨v2, vs2, d2, ds2, p2, q2, rfl, rfl, rfl, h2, r2⟩ := trodAll_cons r1
  obtain ⟨v3, vs3, d3, ds3, p3, q3, rfl, rfl, rfl, h3, r3⟩ := trodAll_cons r2
  obtain ⟨rfl, rfl, rfl⟩ := trodAll_nil r3
  obtain rfl : args = #[v0, v1, v2, v3] := by cases args; simp_all
  obtain ⟨rfl, rfl⟩ := trodVars_none hV
  obtain ⟨a0, rfl, rfl, rfl, w0⟩ := open_int Try.underlying22 (hval 0 22 v0 rfl rfl) h0
  obtain ⟨a1, rfl, rfl, rfl, w1⟩ := open_int Try.underlying22 (hval 1 22 v1 rfl rfl) h1
  obtain ⟨a2, rfl, rfl, rfl, w2⟩ := open_int Try.underlying22 (hval 2 22 v2 rfl rfl) h2
  obtain ⟨a3, rfl, rfl, rfl, w3⟩ := open_int Try.underlying22 (hval 3 22 v3 rfl rfl) h3
  clear hA0 hval0
  simp only [List.append_nil] at hW'
  refine (walk a0 a1 a2 a3 w0 w1 w2 w3 W).mono fun e W' ⟨he, hg⟩ => ?_
  subst he
  exact ⟨_, rfl, post_of_same (pa := []) (pv := []) hW' (fun _ _ _ => (trodAll_cons_mk (shut_bool Try.underlying4 _) trodAll_mk0)) (fun sp _ => (trodAll_cons_mk (shut_int Try.underlying22 w0) (trodAll_cons_mk (shut_int Try.underlying22 w1) (trodAll_cons_mk (shut_int Try.underlying22 w2) (trodAll_cons_mk (shut_int Try.underlying22 w3) trodAll_mk0))))) (fun _ _ => rfl) rfl
    (hg.frame _) hg.2.1 (ok_one (by kernel_rfl) rfl (okWide_bool_mk Try.underlying4 _))⟩

theorem over : Rows.fnCmpIsSignOf128BitDifferenceRow.holds Try.pinned (OpenSpec.ofChange Rows.fnCmpIsSignOf128BitDifferenceSpec) :=
  OpenClaim.holds_of_wide 3 Try.f3 rfl rfl rfl rfl rfl rfl rfl ⟨rfl, rfl, rfl, rfl, rfl⟩ rfl rfl rfl rfl rfl (by kernel_rfl) Try.func3 (by kernel_rfl)
    (of_decide_eq_true (by kernel_rfl)) (by unfold Func.isWrapper; first | (rw [if_pos (by decide +kernel)]; kernel_rfl) | (rw [if_neg (by decide +kernel)]; exact ⟨rfl, rfl⟩))
    (fun os started H enc _ => lifted os started H enc)

/-- ████ THE STATEMENT ████ -/
theorem proved : Rows.FnCmpIsSignOf128BitDifferenceSaid :=
  over
#print axioms proved
end Go.Proofs.Qxb6623265a.fnCmpIsSignOf128BitDifference
