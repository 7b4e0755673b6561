/-
  THE WALK of FnPutOffMatchesAssociationListOverScript, the empty script; and the law at every length.
-/
import Derived.Test.Qxb6618648aPutOffMain
namespace Go.Proofs.Qxb6618648a
open Go.RowKit

set_option maxRecDepth 100000 in
set_option maxHeartbeats 4000000 in
theorem putoff_none (a : Option Addr) (cap : Nat) (probe : Int) (w : World) (rp : InR probe) :
    Calls Try.prog 5 #[.slice a 0 cap, .int .i64 probe] w fun e w' => e = .returned (.bool true) ∧ Below w.heap.size w w' := by
  obtain ⟨i0, hi, hz0, hz1, hz2⟩ := info_parts Try.info2
  have zz := zzBytes14 a 0 cap probe w (by unfold maxLen; omega)
  go_enter Try.func5, Try.ntmps5
  go_wp2_with fail
  refine zz.mono ?_
  rintro e w' ⟨⟨bb, rfl⟩, rfl⟩
  clear zz
  cases bb
  · go_wp2_with fail
    go_ret
    exact ⟨rfl, Below.refl _ _⟩
  · go_wp2_with fail
    refine (new_any w).mono ?_
    rintro e x ⟨p, bm, hp, hbm, rfl, hP, hB⟩
    go_wp2_with fail
    refine (run_none p bm cap a x hP).mono ?_
    rintro e y ⟨rfl, hPy, hg⟩
    have BY := below_more hB hg hbm
    have HP : Hid (Place y p bm 0 (fun _ => none) 0) := hPy
    clear hP hB hg hPy
    obtain ⟨y1, m1, o1, g1⟩ := run_make_own (P := Try.prog) y 0 34 2 i0 (.int .i64 0) 1 Try.underlying34 hi hz0 hz1 .i64 .i64 0 (by rw [hz2]; omega) (by unfold maxLen; omega) (Nat.zero_le _)
    obtain ⟨y2, m2, o2, g2⟩ := run_make_own (P := Try.prog) y1 0 34 2 i0 (.int .i64 0) 1 Try.underlying34 hi hz0 hz1 .i64 .i64 0 (by rw [hz2]; omega) (by unfold maxLen; omega) (Nat.zero_le _)
    have K0 : KRow y2 y.heap.size 0 [] := (World.ownsRow.kept o1 g2 (.inr (by simp [Value.ownBlock])) : _)
    have B0 : Below y.heap.size y y2 := by
      have e1 : Below y.heap.size y y1 := Below.grown (Below.refl _ _) g1 (Nat.le_refl _) (fun k hk => by cases hk)
      exact Below.grown e1 g2 e1.size (fun k hk => by cases hk)
    clear o1 o2 g1 g2
    have n1 : (Instr.makeSlice 34 (.int .i64 0) (.int .i64 0)).run Try.prog y = .ok (.slice (some ⟨y.heap.size, 0, none⟩) 0 0) y1 := m1
    have n2 : (Instr.makeSlice 34 (.int .i64 0) (.int .i64 0)).run Try.prog y1 = .ok (.slice (some ⟨y1.heap.size, 0, none⟩) 0 0) y2 := m2
    clear m1 m2
    have HP2 : Hid (Place y2 p bm 0 (fun _ => none) 0) := HP.out.below B0
    have BW : Below w.heap.size w y2 := BY.trans (B0.mono BY.size)
    have HK : Hid (KRow y2 y.heap.size 0 []) := K0
    clear K0 B0 HP BY
    go_wp2_with fail
    clear n1 n2
    generalize y.heap.size = gk at *
    generalize y1.heap.size = gv at *
    refine wp_loop_rounds 1 ?_
    rw [rounds_succ]
    go_wp2_with fail
    refine (len_any p bm 0 0 _ y2 HP2.out).mono ?_
    rintro e y' ⟨rfl, rfl⟩
    go_wp2_with fail
    refine wp_loop_rounds 1 ?_
    rw [rounds_succ]
    go_wp2_with fail
    refine wp_loop_rounds 1 ?_
    rw [rounds_succ]
    go_wp2_with fail
    refine (at_any p bm 0 0 _ probe y2 rp HP2.out).mono ?_
    rintro e x' ⟨rfl, bx⟩
    have F := find_any gk 0 0 [] probe x' rfl (by omega) (HK.out.below bx)
    have BX : Below w.heap.size w x' := below_on BW bx
    clear HP2 HK bx BW
    go_wp2_with fail
    refine F.mono ?_
    rintro e x'' ⟨rfl, rfl⟩
    clear F
    go_wp2
    go_ret
    exact ⟨rfl, BX⟩

set_option maxRecDepth 100000 in
theorem putoff_long (a : Option Addr) (len cap : Nat) (probe : Int) (w : World) (hl : len ≤ maxLen) (h : ¬ len ≤ 4096)
    (zz : Calls Try.prog 14 #[.slice a len cap, .int .i64 probe] w fun e w' => (∃ b, e = .returned (.bool b)) ∧ w = w') :
    Calls Try.prog 5 #[.slice a len cap, .int .i64 probe] w fun e w' => e = .returned (.bool true) ∧ Below w.heap.size w w' := by
  unfold maxLen at hl
  go_enter Try.func5, Try.ntmps5
  go_wp2_with (go_at_call 14; refine zz.mono ?_; rintro e w' ⟨⟨b, rfl⟩, rfl⟩; cases b)
  all_goals (go_ret; exact ⟨rfl, Below.refl _ _⟩)

theorem putoff_law (a : Option Addr) (len cap : Nat) (S : List Step) (probe : Int) (w : World) (hl : len ≤ maxLen) (hS : ∀ bm, w.heap.size ≤ bm → StepsAt w bm a len S) (rp : InR probe) :
    Calls Try.prog 5 #[.slice a len cap, .int .i64 probe] w fun e w' => e = .returned (.bool true) ∧ Below w.heap.size w w' := by
  by_cases h : len ≤ 4096
  · obtain ⟨hlen, h0⟩ := hS w.heap.size (Nat.le_refl _)
    by_cases hz : len = 0
    · subst hz
      exact putoff_none a cap probe w rp
    · rcases h0 with h0 | ⟨b, off, rfl, _, hc⟩
      · exact absurd h0 hz
      · exact putoff_some b off len cap S probe w hlen h (by omega) hc rp
  · have zz := zzBytes14 a len cap probe w hl
    exact putoff_long a len cap probe w hl h zz

end Go.Proofs.Qxb6618648a
