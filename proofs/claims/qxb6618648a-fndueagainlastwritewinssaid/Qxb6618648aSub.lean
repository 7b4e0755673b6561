/-
  THE WALK of (time.Time).Sub at the zero time: one region draws its order and holds two calls that lay blocks: walked once over all grown worlds.
-/
import Derived.Test.Qxb6618648aTime
import Derived.Lib.QuietBelow
import Derived.Deep.QuietTactic
namespace Go.Proofs.Qxb6618648a
open Go.RowKit Go.Sort

set_option maxHeartbeats 400000 in
theorem sub_any (d : Int) (w : World) (hd : -9223372036854775808 ≤ d ∧ d ≤ 9223372036854775807) :
    Calls Try.prog 25 #[timeOf d, timeOf 0] w fun e w' => e = .returned (.int .i64 d) ∧ Below w.heap.size w w' := by
  have C1 := fun w => add_any d w hd
  have C2 := equal_any d
  have e0 : timeOf 0 = .agg #[.int .u64 0, .int .i64 0, .pointer none] := rfl
  rw [e0]
  unfold timeOf at *
  have HD : Hid (d / 1000000000 * 1000000000 + d % 1000000000 = d) := by show _ = _; omega
  have h0 : 0 ≤ d % 1000000000 := by omega
  have h1 : d % 1000000000 < 1000000000 := by omega
  have q0 : -9223372037 ≤ d / 1000000000 := by omega
  have q1 : d / 1000000000 ≤ 9223372036 := by omega
  generalize d % 1000000000 = a at *
  generalize d / 1000000000 = q at *
  have ht := and_top a h0 (by omega)
  have hz := and_zero a h0 (by omega)
  have hzz : bits .and .u64 0 9223372036854775808 = 0 := and_top 0 (by omega) (by omega)
  have hw : wrap64 (wrap64 (q * 1000000000) + a) = d := by
    have := HD.out
    unfold wrap64
    omega
  clear e0
  go_enter Try.func25, Try.ntmps25
  go_wp2_with fail
  refine (sec_any _ _ a q _ h0 h1 (by simp) (by simp)).mono ?_
  rintro e x ⟨rfl, rfl⟩
  go_wp2_with fail
  refine (sec_any _ _ 0 0 _ (by omega) (by omega) (by simp) (by simp)).mono ?_
  rintro e x ⟨rfl, rfl⟩
  go_wp2_with fail
  refine (nsec_any _ _ a _ h0 h1 (by simp)).mono ?_
  rintro e x ⟨rfl, rfl⟩
  go_wp2_with fail
  refine (nsec_any _ _ 0 _ (by omega) (by omega) (by simp)).mono ?_
  rintro e x ⟨rfl, rfl⟩
  go_wp2_with fail
  rw [hw]
  clear hw
  have B0 : Below w.heap.size w ((w.alloc (.cells #[.int .u64 a, .int .i64 q, .pointer none] 48)).alloc (.cells #[.int .u64 0, .int .i64 0, .pointer none] 48)) := ((Below.refl _ _).alloc (Nat.le_refl _) _).alloc (by simp) _
  generalize hW : (w.alloc (.cells #[.int .u64 a, .int .i64 q, .pointer none] 48)).alloc (.cells #[.int .u64 0, .int .i64 0, .pointer none] 48) = W at *
  have k0 := cell_regrown (show W.cell? ⟨w.heap.size, 0, none⟩ = some (.int .u64 a) by rw [← hW]; simp)
  have k1 := cell_regrown (show W.cell? ⟨w.heap.size, 1, none⟩ = some (.int .i64 q) by rw [← hW]; simp)
  have k2 := cell_regrown (show W.cell? ⟨w.heap.size, 2, none⟩ = some (.pointer none) by rw [← hW]; simp)
  have k3 := cell_regrown (show W.cell? ⟨w.heap.size + 1, 0, none⟩ = some (.int .u64 0) by rw [← hW]; simp)
  have k4 := cell_regrown (show W.cell? ⟨w.heap.size + 1, 1, none⟩ = some (.int .i64 0) by rw [← hW]; simp)
  have k5 := cell_regrown (show W.cell? ⟨w.heap.size + 1, 2, none⟩ = some (.pointer none) by rw [← hW]; simp)
  clear hW
  have cA : ∀ n os, Calls Try.prog 22 #[.agg #[.int .u64 0, .int .i64 0, .pointer none], .int .i64 d] (grow (redrawn W n) os) fun e w'' => e = .returned (.agg #[.int .u64 a, .int .i64 q, .pointer none]) ∧ ∃ p : Regrown, w'' = grow (redrawn W p.d) p.os := fun n os => Calls.regrown_of (C1 _)
  have cE : ∀ n os, Calls Try.prog 32 #[.agg #[.int .u64 a, .int .i64 q, .pointer none], .agg #[.int .u64 a, .int .i64 q, .pointer none]] (grow (redrawn W n) os) fun e w'' => e = .returned (.bool true) ∧ ∃ p : Regrown, w'' = grow (redrawn W p.d) p.os := fun n os => Calls.regrown_of (C2 _)
  clear C1 C2
  refine wp_region_quiet_below (by kernel_rfl) (by kernel_rfl) ?_
  repeat (quiet_step (first | exact cA _ _ | exact cE _ _))
  refine wpQuiet_nil ?_
  intro _ hw'
  obtain ⟨⟨dq, osq⟩, hw''⟩ := hw'
  subst hw''
  have B1 := below_regrown W dq osq
  generalize grow (redrawn W dq) osq = Z at *
  clear k0 k1 k2 k3 k4 k5 cA cE
  go_wp2
  go_ret
  exact ⟨rfl, B0.trans (B1.mono B0.size)⟩

end Go.Proofs.Qxb6618648a
