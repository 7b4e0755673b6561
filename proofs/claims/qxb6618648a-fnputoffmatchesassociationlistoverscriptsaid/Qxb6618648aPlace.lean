/-
  THE WALKS of the place: ZZnewOutboxPlace, dueAgain, settled, ZZputOffLen, ZZputOffAt.
-/
import Derived.Test.Qxb6618648aMap
import Derived.Test.Qxb6618648aSub
import Derived.StillTactics
import Derived.StillTailTactics
namespace Go.Proofs.Qxb6618648a
open Go.RowKit

theorem region_tail {P : Program} {id : Nat} {Q : Exit → Act → World → Prop} {a : Act} {w : World} {l : List Oper} (n : Nat) (hm : P.follows .mixedOrders = true) (hB : Region.lexTailB .any l.toArray n = true)
    (h : wpStill P l.toArray w.drew (fun a' => wpList P l.toArray Q (l.drop n) a' w.drew) (l.take n) a) : (Code.region id l.toArray true).wp P Q a w :=
  wp_region_still_tail n hm hB h

theorem grown_drew {a b : World} {row : Option Nat} (h : a.drew.grownBy b row) : a.grownBy b row := ⟨h.os, h.tape, h.output, h.size, h.block⟩

set_option maxHeartbeats 400000 in
theorem new_any (w : World) :
    Calls Try.prog 9 #[.int .i64 0, .int .i64 0, .int .i64 0, .int .i64 0, .int .i64 0, .bool false, .int .i64 0] w fun e w' => ∃ p bm, w.heap.size ≤ p ∧ w.heap.size ≤ bm ∧ e = .returned (.pointer (some ⟨p, 0, none⟩)) ∧ Place w' p bm 0 (fun _ => none) 0 ∧ Below w.heap.size w w' := by
  have hmm := @run_makeMap Try.prog
  go_enter Try.func9, Try.ntmps9
  go_wp2
  go_ret
  refine ⟨w.heap.size + 2, w.heap.size + 1, by omega, by omega, ?_, ⟨?_, .map [], ?_, Abs.empty⟩, ?_⟩
  · rfl
  · rw [World.cell?_alloc_at _ _ _ _ (by simp)]; rfl
  · refine World.ownsMap.alloc ?_ _
    have := World.ownsMap_made (w.alloc (.map #[] 0)) Try.prog 2 timeElem
    simpa using this
  · exact (((Below.refl _ _).alloc (Nat.le_refl _) _).alloc (by simp) _).alloc (by simp; omega) _

set_option maxHeartbeats 400000 in
theorem due_in (p bm n s : Nat) (f : Int → Option Int) (k d : Int) (w : World) (hk : InR k) (hd : InR d) (hn : n ≤ 1000000) (hp : Place w p bm n f s) :
    Calls Try.prog 21 #[.pointer (some ⟨p, 0, none⟩), .int .i64 k, timeOf d] w fun e w' => e = .returned (.tuple #[]) ∧ Place w' p bm (n + 1) (upd f k (some d)) (grow1 (f k).isSome s) ∧ w.grownBy w' (some bm) := by
  have hlt := hp.lt
  have hl1 : p < w.heap.size := hlt.1
  have hc := hp.cell
  have HP : Hid (Place w p bm n f s) := hp
  have HV := timeElem_mk d hd
  have HK := key_of k hk
  obtain ⟨D, ho, ha⟩ := hp.own
  have HA : Hid (Abs D f s) := ha
  clear hp ha hlt
  unfold timeOf at *
  generalize d % 1000000000 = a at *
  generalize d / 1000000000 = q at *
  go_enter Try.func21, Try.ntmps21
  go_wp2
  refine region_tail 6 (by kernel_rfl) (by kernel_rfl) ?_
  simp only [List.take_succ_cons, List.take_zero, List.drop_succ_cons, List.drop_zero]
  iterate 6 still_step
  refine wpStill_nil ?_
  refine wpList_mapUpdate_own _ rfl _ _ _ 44 rfl 2 48 law Try.underlying44 _ bm n D rfl (World.ownsMap.drew (ho.alloc _)) (by unfold maxLen; omega) _ _ _ rfl rfl HK _ [] HV ?_
  intro w1 hown1 hgrow1
  go_wp2
  go_end0
  have hg : w.grownBy w1 (some bm) := grown_trans (World.grownBy_alloc w _ (some bm)) (grown_drew hgrow1)
  exact ⟨rfl, ⟨hg.cell hc (by simpa using HP.out.ne), _, hown1, HA.out.put k d⟩, hg⟩

set_option maxHeartbeats 400000 in
theorem due_any (p bm n s : Nat) (f : Int → Option Int) (k d : Int) (w : World) (hk : InR k) (hd : InR d) (hn : n ≤ 1000000) (hp : Place w p bm n f s) :
    Calls Try.prog 10 #[.pointer (some ⟨p, 0, none⟩), .int .i64 k, .int .i64 d] w fun e w' => e = .returned (.tuple #[]) ∧ Place w' p bm (n + 1) (upd f k (some d)) (grow1 (f k).isSome s) ∧ w.grownBy w' (some bm) := by
  have C1 := add_any d w hd
  have C2 := fun x (h : Place x p bm n f s) => due_in p bm n s f k d x hk hd hn h
  have HP : Hid (Place w p bm n f s) := hp
  clear hp
  go_enter Try.func10, Try.ntmps10
  go_wp2_with fail
  refine C1.mono ?_
  rintro e x ⟨rfl, hb⟩
  go_wp2_with fail
  refine (C2 x (HP.out.below hb)).mono ?_
  rintro e y ⟨rfl, hy, hg⟩
  clear C1 C2
  go_wp2
  go_end0
  exact ⟨rfl, hy, grown_trans (grown_but (grown_of_below hb) _) hg⟩

set_option maxHeartbeats 400000 in
theorem settled_any (p bm n s : Nat) (f : Int → Option Int) (k : Int) (w : World) (hk : InR k) (hp : Place w p bm n f s) :
    Calls Try.prog 12 #[.pointer (some ⟨p, 0, none⟩), .int .i64 k] w fun e w' => e = .returned (.tuple #[]) ∧ Place w' p bm n (upd f k none) (drop1 (f k).isSome s) ∧ w.grownBy w' (some bm) := by
  have hc := hp.cell
  have HP : Hid (Place w p bm n f s) := hp
  have HK := key_of k hk
  obtain ⟨D, ho, ha⟩ := hp.own
  have HA : Hid (Abs D f s) := ha
  clear hp ha
  go_enter Try.func12, Try.ntmps12
  go_wp2_with (first | (at_delete; refine wpList_delete_own _ rfl _ _ 44 2 rfl 48 law Try.underlying44 _ bm n D rfl ho _ _ rfl HK ?_; intro w1 hown1 hturn1) | go_in)
  go_end0
  go_wp2
  go_end0
  have hg := hturn1.grown
  exact ⟨rfl, ⟨hg.cell hc (by simpa using HP.out.ne), _, hown1, HA.out.del k⟩, hg⟩

set_option maxHeartbeats 400000 in
theorem len_any (p bm n s : Nat) (f : Int → Option Int) (w : World) (hp : Place w p bm n f s) :
    Calls Try.prog 17 #[.pointer (some ⟨p, 0, none⟩)] w fun e w' => e = .returned (.int .i64 s) ∧ w = w' := by
  have hc := hp.cell
  obtain ⟨D, ho, ha⟩ := hp.own
  have HA : Hid (Maps.size D = s) := ha.size
  clear hp ha
  go_enter Try.func17, Try.ntmps17
  go_wp2_with (at_len; refine wpList_len_own _ rfl _ 44 rfl 2 48 Try.underlying44 _ bm n D rfl ho ?_)
  go_ret
  exact ⟨ret_int (by rw [HA.out]), rfl⟩

theorem ret_pair {k : IntKind} {a b : Int} {v : Value} (h : a = b) : Ending.returned (.tuple #[.int k a, v]) = .returned (.tuple #[.int k b, v]) := by rw [h]

set_option maxHeartbeats 400000 in
theorem at_any (p bm n s : Nat) (f : Int → Option Int) (k : Int) (w : World) (hk : InR k) (hp : Place w p bm n f s) :
    Calls Try.prog 18 #[.pointer (some ⟨p, 0, none⟩), .int .i64 k] w fun e w' => e = .returned (.tuple #[.int .i64 ((f k).getD 0), .bool (f k).isSome]) ∧ Below w.heap.size w w' := by
  have hc := hp.cell
  have HK := key_of k hk
  obtain ⟨D, ho, ha⟩ := hp.own
  obtain ⟨v, ps, hrun, hv⟩ := ho.look_ok law Try.underlying44 (zeroT w) (timeElem_mk 0 (by unfold InR; omega)) HK
  rw [ha.at_ k] at hv
  obtain ⟨d, hd, rfl, hz⟩ := timeElem_inv hv
  have HD : Hid ((f k).getD 0 = d) := by
    have := congrArg Prod.fst hz
    simp at this
    exact this
  rw [ha.has k] at hrun
  have C : ∀ w, Calls Try.prog 25 #[.agg #[.int .u64 (d % 1000000000), .int .i64 (d / 1000000000), .pointer none], .agg #[.int .u64 0, .int .i64 0, .pointer none]] w fun e w' => e = .returned (.int .i64 d) ∧ Below w.heap.size w w' := fun w => sub_any d w hd
  clear hp ha hv hz ho HK
  unfold timeOf at hrun
  generalize d % 1000000000 = a at *
  generalize d / 1000000000 = q at *
  generalize (f k).isSome = okk at *
  generalize hg : (f k).getD 0 = g at *
  go_enter Try.func18, Try.ntmps18
  go_wp2_with fail
  refine (C _).mono ?_
  rintro e x ⟨rfl, hb⟩
  clear C
  go_wp2
  go_ret2
  exact ⟨ret_pair HD.out.symm, ((Below.refl _ _).alloc (Nat.le_refl _) _).trans (hb.mono (by simp))⟩

end Go.Proofs.Qxb6618648a
