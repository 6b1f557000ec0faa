/-
  The callees' contracts: what each Go function on the two roads computes.
-/
import Derived.Test.Qxb6619539aRows
import Derived.Test.Qxb6619539aPlain
import Derived.WalkKit
import Derived.WalkSpells
import Derived.RowKit3
namespace Go.Proofs.Qxb6619539a
open Go.RowKit

set_option maxHeartbeats 400000 in
theorem sub128_any (xh xl yh yl : Int) (w : World) :
    Calls Try.prog 17 #[.int .u64 xh, .int .u64 xl, .int .u64 yh, .int .u64 yl] w fun e w' =>
      e = .returned (.tuple #[.int .u64 (sub_hi xh xl yh yl), .int .u64 (sub_lo xl yl), .int .u64 (sub_bo xh xl yh yl)]) ∧ w' = w := by
  have hs : IntKind.u64.signed = false := rfl
  go_enter Try.func17, Try.ntmps17
  go_wp2
  go_ret3
  exact ⟨rfl, rfl⟩

set_option maxHeartbeats 400000 in
theorem clockOf_any (t r : Int) (w : World) :
    Calls Try.prog 16 #[.int .u64 t, .int .u64 r] w fun e w' =>
      e = .returned (.agg #[.int .u64 t, .int .u64 r]) ∧ w' = w.alloc (.cells #[.int .u64 t, .int .u64 r] 38) := by
  go_enter Try.func16, Try.ntmps16
  go_wp2
  simp [bodyPost, results, Try.results16, go_sem]

set_option maxHeartbeats 400000 in
theorem compare_any (ct cr dt dr : Int) (w : World) :
    Calls Try.prog 18 #[.agg #[.int .u64 ct, .int .u64 cr], .agg #[.int .u64 dt, .int .u64 dr]] w fun e w' =>
      e = .returned (.int .i64 (cmpv ct cr dt dr)) ∧ w' = (w.alloc (.cells #[.int .u64 ct, .int .u64 cr] 38)).alloc (.cells #[.int .u64 dt, .int .u64 dr] 38) := by
  by_cases e1 : ct = dt
  · subst e1
    by_cases e2 : cr < dr
    · have HV : Hid (cmpv ct cr ct dr = -1) := by unfold Hid cmpv; simp [e2]
      go_enter Try.func18, Try.ntmps18
      go_wp2
      go_ret
      exact ⟨by rw [HV.out]; rfl, rfl⟩
    · by_cases e3 : dr < cr
      · have HV : Hid (cmpv ct cr ct dr = 1) := by unfold Hid cmpv; simp [e2, e3]
        go_enter Try.func18, Try.ntmps18
        go_wp2
        go_ret
        exact ⟨by rw [HV.out]; rfl, rfl⟩
      · have HV : Hid (cmpv ct cr ct dr = 0) := by unfold Hid cmpv; simp [e2, e3]
        go_enter Try.func18, Try.ntmps18
        go_wp2
        go_ret
        exact ⟨by rw [HV.out]; rfl, rfl⟩
  · by_cases e2 : ct < dt
    · have HV : Hid (cmpv ct cr dt dr = -1) := by unfold Hid cmpv; simp [e2]
      go_enter Try.func18, Try.ntmps18
      go_wp2
      go_ret
      exact ⟨by rw [HV.out]; rfl, rfl⟩
    · have e3 : dt < ct := by omega
      have HV : Hid (cmpv ct cr dt dr = 1) := by unfold Hid cmpv; simp [e2, e3]
      go_enter Try.func18, Try.ntmps18
      go_wp2
      go_ret
      exact ⟨by rw [HV.out]; rfl, rfl⟩
end Go.Proofs.Qxb6619539a
