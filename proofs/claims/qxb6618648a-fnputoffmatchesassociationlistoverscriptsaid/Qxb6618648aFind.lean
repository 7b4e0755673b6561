/-
  THE WALK of zzFind; the rows of keys and values.
-/
import Derived.Test.Qxb6618648aAssoc
import Derived.Test.Qxb6618648aDue
import Derived.Deep.DeepAppendRoom
namespace Go.Proofs.Qxb6618648a
open Go.RowKit

/-- Block g is a row of capacity cap whose first cells are the numbers xs. -/
def KRow (w : World) (g cap : Nat) (xs : List Int) : Prop := w.ownsRow 0 2 1 (.slice (some ⟨g, 0, none⟩) xs.length cap) xs.length (xs.map (Value.int .i64))

theorem KRow.cell {w : World} {g cap : Nat} {xs : List Int} (h : KRow w g cap xs) (j : Nat) (hj : j < xs.length) : w.cell? ⟨g, j, none⟩ = some (.int .i64 (xs.getD j 0)) := by
  rw [World.ownsRow.cellAt h j (by omega), List.getElem?_map]
  simp [hj]
theorem KRow.frozen {w : World} {g cap : Nat} {xs : List Int} (h : KRow w g cap xs) (j : Nat) : w.frozen? ⟨g, j, none⟩ = false := World.ownsRow.frozenAt h j
theorem KRow.lt {w : World} {g cap : Nat} {xs : List Int} (h : KRow w g cap xs) : g < w.heap.size := (World.ownsRow.lt h g rfl).2
theorem KRow.kept {w w' : World} {g cap : Nat} {xs : List Int} {row : Option Nat} (h : KRow w g cap xs) (hg : w.grownBy w' row) (hne : some g ≠ row) : KRow w' g cap xs :=
  World.ownsRow.kept h hg (.inr (by simpa [Value.ownBlock] using hne))
theorem KRow.below {w w' : World} {g cap : Nat} {xs : List Int} (h : KRow w g cap xs) (hb : Below w.heap.size w w') : KRow w' g cap xs := h.kept (grown_of_below hb) (by simp)
theorem KRow.store {w : World} {g cap : Nat} {xs : List Int} (h : KRow w g cap xs) (j : Nat) (u : Int) : KRow (w.setCell ⟨g, j, none⟩ (.int .i64 u)) g cap (xs.set j u) := by
  have := (World.ownsRow.stored h j (.int .i64 u)).1
  unfold KRow
  rw [List.length_set, List.map_set]
  exact this
theorem KRow.other {w : World} {g cap : Nat} {xs : List Int} (h : KRow w g cap xs) (g' j : Nat) (u : Value) (hne : g ≠ g') : KRow (w.setCell ⟨g', j, none⟩ u) g cap xs := by
  refine h.kept (row := some g') ⟨rfl, rfl, rfl, by simp [World.setCell], fun k _ hk => Below.heap_setCell _ _ _ _ (fun e => hk (by simp [e]))⟩ (by simpa using hne)
theorem KRow.pop {w : World} {g cap m : Nat} {xs : List Int} (h : KRow w g cap xs) (hm : xs.length = m + 1) : KRow w g cap (xs.take m) := by
  have e : (xs.take m).length = m := by simp [hm]
  unfold KRow at *
  rw [hm] at h
  rw [e]
  refine ownsRow_pop (last := (xs.drop m).map (Value.int .i64)) (by simp [hm]) ?_
  rw [← List.map_append, List.take_append_drop]
  exact h
theorem KRow.of {w1 : World} {g cap : Nat} {zs : List Int} {l : List Value} {n n' : Nat} (h : w1.ownsRow 0 2 1 (.slice (some ⟨g, 0, none⟩) n cap) n' l) (hn : n = zs.length) (hn' : n' = zs.length) (hl : l = zs.map (Value.int .i64)) : KRow w1 g cap zs := by
  subst hn; subst hn'; subst hl; exact h

set_option maxHeartbeats 400000 in
theorem find_any (g cap n : Nat) (ks : List Int) (k : Int) (w : World) (hn : ks.length = n) (hb : n ≤ 100000) (hr : KRow w g cap ks) :
    Calls Try.prog 16 #[.slice (some ⟨g, 0, none⟩) n cap, .int .i64 k] w fun e w' => e = .returned (.int .i64 (findAt ks k 0)) ∧ w = w' := by
  have HN : Hid (ks.length = n) := hn
  have hc : ∀ j, j < n → w.cell? ⟨g, j, none⟩ = some (.int .i64 (ks.getD j 0)) := fun j hj => hr.cell j (by omega)
  clear hn hr
  go_enter Try.func16, Try.ntmps16
  go_wp2
  go_loop [5] (fun i => ∃ j : Nat, j ≤ n ∧ i = .int .i64 j ∧ findAt ks k 0 = findAt (ks.drop j) k j) (fun i => n - (intOf i).toNat)
  case atStart => exact ⟨0, Nat.zero_le _, rfl, rfl⟩
  case round =>
    obtain ⟨j, hj, rfl, hf⟩ := hrel
    have HF : Hid (findAt ks k 0 = findAt (ks.drop j) k j) := hf
    clear hf
    by_cases hlt : j < n
    · have c1 := hc j hlt
      have b1 : (j : Int) < n := by omega
      have HS : Hid (findAt ks k 0 = if ks.getD j 0 = k then (j : Int) else findAt (ks.drop (j + 1)) k (j + 1)) := HF.out.trans (find_drop ks k j (by rw [HN.out]; exact hlt))
      clear hc HF
      generalize ks.getD j 0 = x at *
      by_cases hx : (x == k) = true
      · have HQ : Hid (findAt ks k 0 = (j : Int)) := by show _ = _; rw [HS.out, if_pos (by simpa using hx)]
        clear HS
        go_wp2
        go_ret
        exact ⟨ret_int HQ.out.symm, rfl⟩
      · have hx' : (x == k) = false := by simpa using hx
        have HQ : Hid (findAt ks k 0 = findAt (ks.drop (j + 1)) k (j + 1)) := by show _ = _; rw [HS.out, if_neg (by simpa using hx)]
        clear HS hx
        go_wp2
        go_round
        case rel => exact ⟨j + 1, by omega, by go_num, HQ.out⟩
        case measure => simp [intOf]; omega
    · clear hc
      go_wp2
      go_ret
      exact ⟨ret_int (by rw [HF.out, List.drop_of_length_le (by rw [HN.out]; omega)]; rfl), rfl⟩

set_option maxHeartbeats 400000 in
theorem zzBytes14 (a : Option Addr) (len cap : Nat) (k1 : Int) (w : World) (hl : len ≤ maxLen) :
    Calls Try.prog 14 #[.slice a len cap, .int .i64 k1] w fun e w' => (∃ b, e = .returned (.bool b)) ∧ w = w' := by
  unfold maxLen at hl
  go_enter Try.func14, Try.ntmps14
  go_wp2
  all_goals go_ret
  all_goals exact ⟨⟨_, rfl⟩, rfl⟩

end Go.Proofs.Qxb6618648a
