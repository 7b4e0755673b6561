/-
  THE WALK of FnSettledUndoesAndIsIdempotent.
-/
import Derived.Test.Qxb6618648aDue
namespace Go.Proofs.Qxb6618648a
open Go.RowKit

theorem Place.pos {w : World} {p bm n : Nat} {f : Int → Option Int} {s : Nat} (h : Place w p bm n f s) (k : Int) (hk : (f k).isSome = true) : 1 ≤ s := by
  obtain ⟨D, _, ha⟩ := h.own
  have := Maps.size_del (k := .int .i64 k) ha.tidy
  rw [ha.has k, ha.size, if_pos hk] at this
  omega

set_option maxHeartbeats 400000 in
theorem zzBytes20 (a : Option Addr) (len cap : Nat) (k1 k2 k3 : Int) (w : World) (hl : len ≤ maxLen) :
    Calls Try.prog 20 #[.slice a len cap, .int .i64 k1, .int .i64 k2, .int .i64 k3] w fun e w' => (∃ b, e = .returned (.bool b)) ∧ w = w' := by
  unfold maxLen at hl
  go_enter Try.func20, Try.ntmps20
  go_wp2
  all_goals go_ret
  all_goals exact ⟨⟨_, rfl⟩, rfl⟩

set_option maxHeartbeats 1000000 in
theorem settled_main (a : Option Addr) (len cap : Nat) (S : List Step) (seq ti other : Int) (w : World) (hl : len ≤ 4096) (hS : ∀ bm, w.heap.size ≤ bm → StepsAt w bm a len S)
    (r1 : InR seq) (r2 : InR ti) (r4 : InR other) :
    Calls Try.prog 7 #[.slice a len cap, .int .i64 seq, .int .i64 ti, .int .i64 other] w fun e w' => e = .returned (.bool true) ∧ Below w.heap.size w w' := by
  have zz := zzBytes20 a len cap seq ti other w (by unfold maxLen; omega)
  have HS : Hid (∀ bm, w.heap.size ≤ bm → StepsAt w bm a len S) := hS
  clear hS
  go_enter Try.func7, Try.ntmps7
  go_wp2_with fail
  refine zz.mono ?_
  rintro e w' ⟨⟨b, rfl⟩, rfl⟩
  clear zz
  cases b
  · go_wp2_with fail
    go_ret
    exact ⟨rfl, Below.refl _ _⟩
  · go_wp2_with fail
    refine (new_any w).mono ?_
    rintro e x ⟨p, bm, hp, hbm, rfl, hP, hB⟩
    go_wp2_with fail
    have hSx := StepsAt.below (HS.out bm hbm) hB hbm
    refine (run_any p bm len cap a S x hl hSx hP).mono ?_
    rintro e x1 ⟨rfl, hP1, hg1⟩
    have B1 := below_more hB hg1 hbm
    have hs := hP1.size_le
    have hpos := fun h => hP1.pos seq h
    have HP1 : Hid (Place x1 p bm len (run S).1 (run S).2) := hP1
    clear hP hB hSx hg1 hP1 HS
    generalize (run S).1 = f at *
    generalize (run S).2 = s at *
    go_wp2_with fail
    refine (len_any p bm len s f x1 HP1.out).mono ?_
    rintro e y ⟨rfl, rfl⟩
    go_wp2_with fail
    refine (at_any p bm len s f seq x1 r1 HP1.out).mono ?_
    rintro e x2 ⟨rfl, b2⟩
    have HP2 : Hid (Place x2 p bm len f s) := HP1.out.below b2
    have B2 := below_on B1 b2
    clear HP1 b2 B1
    go_wp2_with fail
    refine (at_any p bm len s f other x2 r4 HP2.out).mono ?_
    rintro e x3 ⟨rfl, b3⟩
    have HP3 : Hid (Place x3 p bm len f s) := HP2.out.below b3
    have B3 := below_on B2 b3
    clear HP2 b3 B2
    generalize hv0 : (f seq).getD 0 = v0 at *
    clear hv0
    have HO : ∀ n' s' f' (x : World), Place x p bm n' f' s' → f' other = f other → Calls Try.prog 18 #[.pointer (some ⟨p, 0, none⟩), .int .i64 other] x fun e w' => e = .returned (.tuple #[.int .i64 ((f other).getD 0), .bool (f other).isSome]) ∧ Below x.heap.size x w' := by
      intro n' s' f' x h he
      have := at_any p bm n' s' f' other x r4 h
      rw [he] at this
      exact this
    have HY : ∀ n' s' f' (x : World), Place x p bm n' f' s' → f' seq = some ti → Calls Try.prog 18 #[.pointer (some ⟨p, 0, none⟩), .int .i64 seq] x fun e w' => e = .returned (.tuple #[.int .i64 ti, .bool true]) ∧ Below x.heap.size x w' := by
      intro n' s' f' x h he
      have := at_any p bm n' s' f' seq x r1 h
      rw [he] at this
      exact this
    have HN : ∀ n' s' f' (x : World), Place x p bm n' f' s' → f' seq = none → Calls Try.prog 18 #[.pointer (some ⟨p, 0, none⟩), .int .i64 seq] x fun e w' => e = .returned (.tuple #[.int .i64 0, .bool false]) ∧ Below x.heap.size x w' := by
      intro n' s' f' x h he
      have := at_any p bm n' s' f' seq x r1 h
      rw [he] at this
      exact this
    have D1 : ∀ (x : World), Place x p bm len f s → Calls Try.prog 10 #[.pointer (some ⟨p, 0, none⟩), .int .i64 seq, .int .i64 ti] x fun e w' => e = .returned (.tuple #[]) ∧ Place w' p bm (len + 1) (upd f seq (some ti)) (grow1 (f seq).isSome s) ∧ x.grownBy w' (some bm) :=
      fun x h => due_any p bm len s f seq ti x r1 r2 (by omega) h
    have ST : ∀ n' s' f' (x : World), Place x p bm n' f' s' → Calls Try.prog 12 #[.pointer (some ⟨p, 0, none⟩), .int .i64 seq] x fun e w' => e = .returned (.tuple #[]) ∧ Place w' p bm n' (upd f' seq none) (drop1 (f' seq).isSome s') ∧ x.grownBy w' (some bm) :=
      fun n' s' f' x h => settled_any p bm n' s' f' seq x r1 h
    clear r1 r2 r4
    generalize hh : (f seq).isSome = had at *
    have HH : Hid ((f seq).isSome = had) := hh
    clear hh
    generalize hoo : (f other).isSome = ook at *
    generalize hov : (f other).getD 0 = o0 at *
    clear hoo hov
    cases had
    · -- seq had no note
      clear hpos
      go_wp2_with fail
      refine (D1 x3 HP3.out).mono ?_
      rintro e x4 ⟨rfl, hP4, g4⟩
      have HP4 : Hid (Place x4 p bm (len + 1) (upd f seq (some ti)) (s + 1)) := hP4
      have B4 := below_more B3 g4 hbm
      clear hP4 g4 B3 HP3 D1
      go_wp2_with fail
      refine (HY _ _ _ x4 HP4.out (upd_same _ _ _)).mono ?_
      rintro e x5 ⟨rfl, b5⟩
      have HP5 : Hid (Place x5 p bm (len + 1) (upd f seq (some ti)) (s + 1)) := HP4.out.below b5
      have B5 := below_on B4 b5
      clear b5 B4 HP4 HY
      go_wp2_with fail
      refine (len_any _ _ _ _ _ x5 HP5.out).mono ?_
      rintro e y ⟨rfl, rfl⟩
      go_wp2_with fail
      refine (ST _ _ _ x5 HP5.out).mono ?_
      rintro e x6 ⟨rfl, hP6, g6⟩
      rw [upd_same] at hP6
      have HP6 : Hid (Place x6 p bm (len + 1) (upd (upd f seq (some ti)) seq none) s) := hP6
      have B6 := below_more B5 g6 hbm
      clear hP6 g6 B5 HP5 ST
      go_wp2_with fail
      refine (HN _ _ _ x6 HP6.out (upd_same _ _ _)).mono ?_
      rintro e x7 ⟨rfl, b7⟩
      have HP7 : Hid (Place x7 p bm (len + 1) (upd (upd f seq (some ti)) seq none) s) := HP6.out.below b7
      have B7 := below_on B6 b7
      clear b7 B6 HP6 HN
      go_wp2_with fail
      refine (len_any _ _ _ _ _ x7 HP7.out).mono ?_
      rintro e y ⟨rfl, rfl⟩
      by_cases hne : (other != seq) = true
      · have HNE : Hid (other ≠ seq) := by
          show other ≠ seq
          simpa using hne
        go_wp2_with fail
        refine (HO _ _ _ x7 HP7.out (by rw [upd_other _ _ _ _ HNE.out, upd_other _ _ _ _ HNE.out])).mono ?_
        rintro e x8 ⟨rfl, b8⟩
        have B8 := below_on B7 b8
        clear b8 B7 HP7 HO
        go_wp2
        go_ret
        exact ⟨ret_bool (by simp), B8⟩
      · have hne' : (other != seq) = false := by simpa using hne
        clear hne HO
        go_wp2
        go_ret
        exact ⟨ret_bool (by simp), B7⟩
    · -- seq had a note
      have hs1 : 1 ≤ s := hpos rfl
      clear hpos D1 HY
      obtain ⟨t, rfl⟩ : ∃ t, s = t + 1 := ⟨s - 1, by omega⟩
      clear hs1
      go_wp2_with fail
      refine (ST _ _ _ x3 HP3.out).mono ?_
      rintro e x4 ⟨rfl, hP4, g4⟩
      rw [HH.out] at hP4
      have HP4 : Hid (Place x4 p bm len (upd f seq none) t) := hP4
      have B4 := below_more B3 g4 hbm
      clear hP4 g4 B3 HP3
      go_wp2_with fail
      refine (HN _ _ _ x4 HP4.out (upd_same _ _ _)).mono ?_
      rintro e x5 ⟨rfl, b5⟩
      have HP5 : Hid (Place x5 p bm len (upd f seq none) t) := HP4.out.below b5
      have B5 := below_on B4 b5
      clear b5 B4 HP4
      go_wp2_with fail
      refine (len_any _ _ _ _ _ x5 HP5.out).mono ?_
      rintro e y ⟨rfl, rfl⟩
      go_wp2_with fail
      refine (ST _ _ _ x5 HP5.out).mono ?_
      rintro e x6 ⟨rfl, hP6, g6⟩
      rw [upd_same] at hP6
      have HP6 : Hid (Place x6 p bm len (upd (upd f seq none) seq none) t) := hP6
      have B6 := below_more B5 g6 hbm
      clear hP6 g6 B5 HP5 ST
      go_wp2_with fail
      refine (HN _ _ _ x6 HP6.out (upd_same _ _ _)).mono ?_
      rintro e x7 ⟨rfl, b7⟩
      have HP7 : Hid (Place x7 p bm len (upd (upd f seq none) seq none) t) := HP6.out.below b7
      have B7 := below_on B6 b7
      clear b7 B6 HP6 HN
      go_wp2_with fail
      refine (len_any _ _ _ _ _ x7 HP7.out).mono ?_
      rintro e y ⟨rfl, rfl⟩
      by_cases hne : (other != seq) = true
      · have HNE : Hid (other ≠ seq) := by
          show other ≠ seq
          simpa using hne
        go_wp2_with fail
        refine (HO _ _ _ x7 HP7.out (by rw [upd_other _ _ _ _ HNE.out, upd_other _ _ _ _ HNE.out])).mono ?_
        rintro e x8 ⟨rfl, b8⟩
        have B8 := below_on B7 b8
        clear b8 B7 HP7 HO
        go_wp2
        go_ret
        exact ⟨ret_bool (by simp), B8⟩
      · have hne' : (other != seq) = false := by simpa using hne
        clear hne HO
        go_wp2
        go_ret
        exact ⟨ret_bool (by simp), B7⟩

theorem settled_law (a : Option Addr) (len cap : Nat) (S : List Step) (seq ti other : Int) (w : World) (hl : len ≤ maxLen) (hS : ∀ bm, w.heap.size ≤ bm → StepsAt w bm a len S)
    (r1 : InR seq) (r2 : InR ti) (r4 : InR other) :
    Calls Try.prog 7 #[.slice a len cap, .int .i64 seq, .int .i64 ti, .int .i64 other] w fun e w' => e = .returned (.bool true) ∧ Below w.heap.size w w' := by
  by_cases h : len ≤ 4096
  · exact settled_main a len cap S seq ti other w h hS r1 r2 r4
  · have zz := zzBytes20 a len cap seq ti other w hl
    clear hS r1 r2 r4
    unfold maxLen at hl
    go_enter Try.func7, Try.ntmps7
    go_wp2_with (go_at_call 20; refine zz.mono ?_; rintro e w' ⟨⟨b, rfl⟩, rfl⟩; cases b)
    all_goals (go_ret; exact ⟨rfl, Below.refl _ _⟩)

end Go.Proofs.Qxb6618648a
