/-
  THE WALK of FnDueAgainLastWriteWins.
-/
import Derived.Test.Qxb6618648aRun
namespace Go.Proofs.Qxb6618648a
open Go.RowKit

theorem Place.size_le {w : World} {p bm n : Nat} {f : Int → Option Int} {s : Nat} (h : Place w p bm n f s) : s ≤ n := by
  obtain ⟨D, ho, ha⟩ := h.own
  have := ho.size_le
  rw [ha.size] at this
  exact this

theorem below_of_grown {w w' : World} {bm : Nat} (h : w.grownBy w' (some bm)) (hb : w.heap.size ≤ bm) : Below w.heap.size w w' :=
  Below.grown (Below.refl _ _) h (Nat.le_refl _) (fun k hk => by cases hk; exact hb)

theorem below_more {w x y : World} {bm : Nat} (h : Below w.heap.size w x) (hg : x.grownBy y (some bm)) (hb : w.heap.size ≤ bm) : Below w.heap.size w y :=
  Below.grown h hg h.size (fun k hk => by cases hk; exact hb)
theorem below_on {w x y : World} (h : Below w.heap.size w x) (hb : Below x.heap.size x y) : Below w.heap.size w y := h.trans (hb.mono h.size)

theorem StepsAt.below {w w' : World} {bm bm' : Nat} {a : Option Addr} {len : Nat} {S : List Step} (h : StepsAt w bm a len S) (hb : Below w.heap.size w w') (hbm : w.heap.size ≤ bm') : StepsAt w' bm' a len S := by
  obtain ⟨hl, h0 | ⟨b, off, rfl, hne, hc⟩⟩ := h
  · exact ⟨hl, .inl h0⟩
  · by_cases h0 : len = 0
    · exact ⟨hl, .inl h0⟩
    · refine ⟨hl, .inr ⟨b, off, rfl, ?_, hc.kept (grown_of_below hb) (by simp)⟩⟩
      have := World.block_lt_of_cell? w _ (hc.put 0 (by omega))
      simp only at this
      omega

set_option maxHeartbeats 400000 in
theorem zzBytes19 (a : Option Addr) (len cap : Nat) (k1 k2 k3 k4 : Int) (w : World) (hl : len ≤ maxLen) :
    Calls Try.prog 19 #[.slice a len cap, .int .i64 k1, .int .i64 k2, .int .i64 k3, .int .i64 k4] w fun e w' => (∃ b, e = .returned (.bool b)) ∧ w = w' := by
  unfold maxLen at hl
  go_enter Try.func19, Try.ntmps19
  go_wp2
  all_goals go_ret
  all_goals exact ⟨⟨_, rfl⟩, rfl⟩

theorem ret_bool {a b : Bool} (h : a = b) : Ending.returned (.bool a) = .returned (.bool b) := by rw [h]

set_option maxHeartbeats 1000000 in
/-- The main road: a script of at most 4096 steps. -/
theorem due_main (a : Option Addr) (len cap : Nat) (S : List Step) (seq first second other : Int) (w : World) (hl : len ≤ 4096) (hS : ∀ bm, w.heap.size ≤ bm → StepsAt w bm a len S)
    (r1 : InR seq) (r2 : InR first) (r3 : InR second) (r4 : InR other) :
    Calls Try.prog 6 #[.slice a len cap, .int .i64 seq, .int .i64 first, .int .i64 second, .int .i64 other] w fun e w' => e = .returned (.bool true) ∧ Below w.heap.size w w' := by
  have zz := zzBytes19 a len cap seq first second other w (by unfold maxLen; omega)
  have HS : Hid (∀ bm, w.heap.size ≤ bm → StepsAt w bm a len S) := hS
  clear hS
  go_enter Try.func6, Try.ntmps6
  go_wp2_with fail
  refine zz.mono ?_
  rintro e w' ⟨⟨b, rfl⟩, rfl⟩
  clear zz
  cases b
  · go_wp2_with fail
    go_ret
    exact ⟨rfl, Below.refl _ _⟩
  · go_wp2_with fail
    refine (new_any w).mono ?_
    rintro e x ⟨p, bm, hp, hbm, rfl, hP, hB⟩
    go_wp2_with fail
    have hSx := StepsAt.below (HS.out bm hbm) hB hbm
    refine (run_any p bm len cap a S x hl hSx hP).mono ?_
    rintro e x1 ⟨rfl, hP1, hg1⟩
    have B1 := below_more hB hg1 hbm
    have hs := hP1.size_le
    have HP1 : Hid (Place x1 p bm len (run S).1 (run S).2) := hP1
    clear hP hB hSx hg1 hP1 HS
    generalize (run S).1 = f at *
    generalize (run S).2 = s at *
    go_wp2_with fail
    refine (len_any p bm len s f x1 HP1.out).mono ?_
    rintro e y ⟨rfl, rfl⟩
    go_wp2_with fail
    refine (at_any p bm len s f seq x1 r1 HP1.out).mono ?_
    rintro e x2 ⟨rfl, b2⟩
    have HP2 : Hid (Place x2 p bm len f s) := HP1.out.below b2
    have B2 := below_on B1 b2
    clear HP1 b2 B1
    go_wp2_with fail
    refine (at_any p bm len s f other x2 r4 HP2.out).mono ?_
    rintro e x3 ⟨rfl, b3⟩
    have HP3 : Hid (Place x3 p bm len f s) := HP2.out.below b3
    have B3 := below_on B2 b3
    clear HP2 b3 B2
    have E1 : ∀ s' (x : World), Place x p bm (len + 1) (upd f seq (some first)) s' → Calls Try.prog 18 #[.pointer (some ⟨p, 0, none⟩), .int .i64 seq] x fun e w' => e = .returned (.tuple #[.int .i64 first, .bool true]) ∧ Below x.heap.size x w' := by
      intro s' x h
      have := at_any p bm (len + 1) s' _ seq x r1 h
      rw [upd_same] at this
      exact this
    have E2 : ∀ s' (x : World), Place x p bm (len + 2) (upd (upd f seq (some first)) seq (some second)) s' → Calls Try.prog 18 #[.pointer (some ⟨p, 0, none⟩), .int .i64 seq] x fun e w' => e = .returned (.tuple #[.int .i64 second, .bool true]) ∧ Below x.heap.size x w' := by
      intro s' x h
      have := at_any p bm (len + 2) s' _ seq x r1 h
      rw [upd_same] at this
      exact this
    have E3 : ∀ s' (x : World), other ≠ seq → Place x p bm (len + 2) (upd (upd f seq (some first)) seq (some second)) s' → Calls Try.prog 18 #[.pointer (some ⟨p, 0, none⟩), .int .i64 other] x fun e w' => e = .returned (.tuple #[.int .i64 ((f other).getD 0), .bool (f other).isSome]) ∧ Below x.heap.size x w' := by
      intro s' x hne h
      have := at_any p bm (len + 2) s' _ other x r4 h
      rw [upd_other _ _ _ _ hne, upd_other _ _ _ _ hne] at this
      exact this
    have D2 : ∀ s' (x : World), Place x p bm (len + 1) (upd f seq (some first)) s' → Calls Try.prog 10 #[.pointer (some ⟨p, 0, none⟩), .int .i64 seq, .int .i64 second] x fun e w' => e = .returned (.tuple #[]) ∧ Place w' p bm (len + 2) (upd (upd f seq (some first)) seq (some second)) s' ∧ x.grownBy w' (some bm) := by
      intro s' x h
      have := due_any p bm (len + 1) s' _ seq second x r1 r3 (by omega) h
      rw [upd_same] at this
      exact this
    have D1 : ∀ (x : World), Place x p bm len f s → Calls Try.prog 10 #[.pointer (some ⟨p, 0, none⟩), .int .i64 seq, .int .i64 first] x fun e w' => e = .returned (.tuple #[]) ∧ Place w' p bm (len + 1) (upd f seq (some first)) (grow1 (f seq).isSome s) ∧ x.grownBy w' (some bm) :=
      fun x h => due_any p bm len s f seq first x r1 r2 (by omega) h
    clear r1 r2 r3 r4
    generalize (f seq).isSome = had at *
    generalize (f seq).getD 0 = v0 at *
    generalize (f other).isSome = ook at *
    generalize (f other).getD 0 = o0 at *
    generalize upd f seq (some first) = f1 at *
    generalize upd f1 seq (some second) = f2 at *
    have HG : Hid (grow1 had s = if had then s else s + 1) := rfl
    cases had
    all_goals
      go_wp2_with fail
      refine (D1 x3 HP3.out).mono ?_
      rintro e x4 ⟨rfl, hP4, g4⟩
      rw [HG.out] at hP4
      simp only [Bool.false_eq_true, if_true, if_false] at hP4
      have HP4 : Hid (Place x4 p bm (len + 1) f1 _) := hP4
      have B4 := below_more B3 g4 hbm
      clear hP4 g4 B3 HP3 D1 HG
      go_wp2_with fail
      refine (E1 _ x4 HP4.out).mono ?_
      rintro e x5 ⟨rfl, b5⟩
      have HP5 : Hid (Place x5 p bm (len + 1) f1 _) := HP4.out.below b5
      have B5 := below_on B4 b5
      clear b5 B4 HP4 E1
      go_wp2_with fail
      refine (len_any p bm (len + 1) _ f1 x5 HP5.out).mono ?_
      rintro e y ⟨rfl, rfl⟩
      go_wp2_with fail
      refine (D2 _ x5 HP5.out).mono ?_
      rintro e x6 ⟨rfl, hP6, g6⟩
      have HP6 : Hid (Place x6 p bm (len + 2) f2 _) := hP6
      have B6 := below_more B5 g6 hbm
      clear hP6 g6 B5 HP5 D2
      go_wp2_with fail
      refine (E2 _ x6 HP6.out).mono ?_
      rintro e x7 ⟨rfl, b7⟩
      have HP7 : Hid (Place x7 p bm (len + 2) f2 _) := HP6.out.below b7
      have B7 := below_on B6 b7
      clear b7 B6 HP6 E2
      go_wp2_with fail
      refine (len_any p bm (len + 2) _ f2 x7 HP7.out).mono ?_
      rintro e y ⟨rfl, rfl⟩
      by_cases hne : (other != seq) = true
      · have hne' : other ≠ seq := by simpa using hne
        have HN : Hid (other ≠ seq) := hne'
        clear hne'
        go_wp2_with fail
        refine (E3 _ x7 HN.out HP7.out).mono ?_
        rintro e x8 ⟨rfl, b8⟩
        have B8 := below_on B7 b8
        clear b8 B7 HP7 E3
        go_wp2
        go_ret
        exact ⟨ret_bool (by simp), B8⟩
      · have hne' : (other != seq) = false := by simpa using hne
        clear hne
        go_wp2
        go_ret
        exact ⟨ret_bool (by simp), B7⟩

theorem due_law (a : Option Addr) (len cap : Nat) (S : List Step) (seq first second other : Int) (w : World) (hl : len ≤ maxLen) (hS : ∀ bm, w.heap.size ≤ bm → StepsAt w bm a len S)
    (r1 : InR seq) (r2 : InR first) (r3 : InR second) (r4 : InR other) :
    Calls Try.prog 6 #[.slice a len cap, .int .i64 seq, .int .i64 first, .int .i64 second, .int .i64 other] w fun e w' => e = .returned (.bool true) ∧ Below w.heap.size w w' := by
  by_cases h : len ≤ 4096
  · exact due_main a len cap S seq first second other w h hS r1 r2 r3 r4
  · have zz := zzBytes19 a len cap seq first second other w hl
    clear hS r1 r2 r3 r4
    unfold maxLen at hl
    go_enter Try.func6, Try.ntmps6
    go_wp2_with (go_at_call 19; refine zz.mono ?_; rintro e w' ⟨⟨b, rfl⟩, rfl⟩; cases b)
    all_goals (go_ret; exact ⟨rfl, Below.refl _ _⟩)

end Go.Proofs.Qxb6618648a
