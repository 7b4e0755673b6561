/-
  THE WALKS, first part: memberNames, ZZmemberNames, zzParseMember.
-/
import Derived.Test.Qxb6618423aDoorRows
import Derived.Test.Qxb6618423aDoorPlain
import Derived.Test.Qxb6618423aDoorShelf
import Derived.WalkKit
import Derived.WalkSpells
import Derived.WalkLawsBesides
namespace Go.Proofs.Qxb6618423aDoor
open Go.RowKit Plain

theorem Tryd.info9 : (Tryd.prog.info? 9).map (fun i => (i.zero, i.size, i.bytes)) = some (some (.string ⟨#[]⟩), 1, 16) := by kernel_rfl

/-- What the row of names holds when the first k are laid. -/
def rowAt (n k : Nat) : List Value := (List.range n).map fun j => if j < k then .string (name j) else .string ⟨#[]⟩

theorem rowAt_zero (n : Nat) : (madeCells #[Value.string ⟨#[]⟩] n).toList = rowAt n 0 := by
  rw [toList_madeCells_one]
  apply List.ext_getElem?
  intro j
  by_cases hj : j < n
  · simp [rowAt, hj]
  · simp [rowAt, hj]
theorem rowAt_set (n k : Nat) (hk : k < n) : (rowAt n k).set k (.string (name k)) = rowAt n (k + 1) := by
  apply List.ext_getElem?
  intro j
  rw [List.getElem?_set]
  by_cases hj : k = j
  · subst hj; simp [rowAt, hk]
  · rw [if_neg hj]
    by_cases hn : j < n
    · simp only [rowAt, List.getElem?_map, List.getElem?_range hn, Option.map_some]
      by_cases h1 : j < k
      · rw [if_pos h1, if_pos (by omega)]
      · rw [if_neg h1, if_neg (by omega)]
    · simp [rowAt, hn]
theorem rowAt_cell (n k j : Nat) (hj : j < n) : (rowAt n k)[j]? = some (if j < k then .string (name j) else .string ⟨#[]⟩) := by
  simp [rowAt, hj]

theorem gPow : Tryd.prog.globalNamed Tryd.powName = some 0 := by kernel_rfl

theorem var?_lt {P : Program} {W : World} {n : String} {g : Nat} {cs : Array Value} (hg : P.globalNamed n = some g) (h : W.var? P n = some cs) : g < W.heap.size := by
  unfold World.var? at h
  simp only [hg, Option.bind_some] at h
  rcases Nat.lt_or_ge g W.heap.size with hl | hl
  · exact hl
  · rw [Array.getElem?_eq_none hl] at h
    cases h

theorem tab_below {w w' : World} (h : Lib.TabIs Tryd.prog w Tryd.powName .u64 Lib.pow10Tab) (hb : Below w.heap.size w w') : Lib.TabIs Tryd.prog w' Tryd.powName .u64 Lib.pow10Tab :=
  var?_below hb gPow (var?_lt gPow h) h

theorem name_eq (k : Nat) : (⟨#[109]⟩ : ByteArray) ++ ⟨(Lib.decDigits (k + 1)).toArray⟩ = name k := by
  unfold name
  apply ByteArray.ext
  simp [ByteArray.data_append]

theorem name_size (k : Nat) (hk : k ≤ 70000) : (⟨(Lib.decDigits (k + 1)).toArray⟩ : ByteArray).size ≤ 5 := by
  have := (length_decDigits (k + 1) (by omega)).2
  simpa [ByteArray.size] using this

theorem bcell {W w1 : World} (hb : Below W.heap.size W w1) : (∀ b o, b < W.heap.size → w1.cell? ⟨b, o, none⟩ = W.cell? ⟨b, o, none⟩) ∧ (∀ b o, b < W.heap.size → w1.frozen? ⟨b, o, none⟩ = W.frozen? ⟨b, o, none⟩) :=
  ⟨fun b o h => hb.cell (p := ⟨b, o, none⟩) h, fun b o h => hb.frozen (p := ⟨b, o, none⟩) h⟩

theorem row_below {B : Nat} {v : Value} {n : Nat} {xs : List Value} {w w' : World} (h : w.ownsRow B 9 1 v n xs) (hb : Below w.heap.size w w') : w'.ownsRow B 9 1 v n xs := by
  refine ⟨h.1, ?_⟩
  rcases h.2 with hn | ⟨g, cap, cur, e, hB, hg, rest⟩
  · exact .inl hn
  · exact .inr ⟨g, cap, cur, e, hB, by rw [hb.block g (Array.getElem?_eq_some_iff.1 hg).1]; exact hg, rest⟩

set_option maxHeartbeats 400000 in
theorem names_any (n : Nat) (hn : n ≤ 65536) (w : World) (htab0 : Lib.TabIs Tryd.prog w Tryd.powName .u64 Lib.pow10Tab) :
    Calls Tryd.prog 6 #[.int .i64 n] w fun e w' => e = .returned (.slice (some ⟨w.heap.size, 0, none⟩) n n) ∧ w'.ownsRow w.heap.size 9 1 (.slice (some ⟨w.heap.size, 0, none⟩) n n) n (rowAt n n) ∧ Below w.heap.size w w' := by
  obtain ⟨i0, hi, hz0, hz1, hz2⟩ := info_parts Tryd.info9
  obtain ⟨w1, hmk, hown0, hg0⟩ := run_make_full (P := Tryd.prog) w w.heap.size 22 9 i0 (.string ⟨#[]⟩) 1 Tryd.underlying22 hi hz0 hz1 .i64 .i64 n (by rw [hz2]; omega) (by unfold maxLen; omega) (Nat.le_refl _)
  have hown1 : w1.ownsRow w.heap.size 9 1 (.slice (some ⟨w.heap.size, 0, none⟩) n n) n (rowAt n 0) := by
    rw [← rowAt_zero]; simpa [Value.cells] using hown0
  have B0 : Below w.heap.size w w1 := Below.grown (Below.refl _ _) hg0 (Nat.le_refl _) (fun k hk => by cases hk)
  clear hown0 hg0
  go_enter Tryd.func6, Tryd.ntmps6
  go_wp2
  go_loopw [9] (fun i wr => ∃ k : Nat, k ≤ n ∧ i = .int .i64 k ∧ wr.ownsRow w.heap.size 9 1 (.slice (some ⟨w.heap.size, 0, none⟩) n n) n (rowAt n k) ∧ Below w.heap.size w wr) (fun i _ => n - (intOf i).toNat)
  case atStart => exact ⟨0, Nat.zero_le _, rfl, hown1, B0⟩
  case round =>
    obtain ⟨k, hk, rfl, hown, hnx⟩ := hrel
    clear hown1 B0 hmk
    by_cases hlt : k < n
    · have htab := tab_below htab0 hnx
      have HC : Hid (Calls Tryd.prog 7 #[.int .i64 ((k : Int) + 1)] wr fun e w' => e = .returned (.string ⟨(Lib.decDigits (k + 1)).toArray⟩) ∧ Below wr.heap.size wr w') := by
        have := Tryd.itoa_any (k + 1) (by omega) wr htab
        rwa [show ((k + 1 : Nat) : Int) = (k : Int) + 1 by omega] at this
      clear htab htab0
      go_wp2_with fail
      refine HC.out.mono ?_
      rintro e x ⟨rfl, hb⟩
      have hsz := hnx.size
      have hszx := hb.size
      have ho := row_below hown hb
      have hlt' := ho.lt w.heap.size rfl
      have hcell := ho.cellAt k (by omega)
      rw [rowAt_cell n k k hlt] at hcell
      simp only [Nat.lt_irrefl, if_false] at hcell
      have hfz := ho.frozenAt k
      have hst := ho.stored k (.string (name k))
      rw [rowAt_set n k hlt] at hst
      have B1 : Below w.heap.size w (x.setCell ⟨w.heap.size, k, none⟩ (.string (name k))) := (hnx.trans (hb.mono hsz)).setCell (Nat.le_refl _) _
      have R := hst.1
      have hln := name_size k (by omega)
      have hnm := name_eq k
      have hb1 : (k : Int) < n := by omega
      clear HC hown hb ho hst
      generalize (⟨(Lib.decDigits (k + 1)).toArray⟩ : ByteArray) = d at *
      go_wp2
      go_roundw
      case rel => exact ⟨k + 1, by omega, by go_num, R, B1⟩
      case measure => simp [intOf]; omega
    · obtain rfl : k = n := by omega
      go_wp2
      go_ret
      exact ⟨rfl, hown, hnx⟩

set_option maxHeartbeats 400000 in
theorem zznames_any (n : Nat) (hn : n ≤ 65536) (w : World) (htab0 : Lib.TabIs Tryd.prog w Tryd.powName .u64 Lib.pow10Tab) :
    Calls Tryd.prog 4 #[.int .i64 n] w fun e w' => e = .returned (.slice (some ⟨w.heap.size, 0, none⟩) n n) ∧ w'.ownsRow w.heap.size 9 1 (.slice (some ⟨w.heap.size, 0, none⟩) n n) n (rowAt n n) ∧ Below w.heap.size w w' := by
  have C := names_any n hn w htab0
  clear htab0
  go_enter Tryd.func4, Tryd.ntmps4
  go_wp2_with fail
  refine C.mono ?_
  rintro e x ⟨rfl, R, B⟩
  go_wp2
  go_ret
  exact ⟨rfl, R, B⟩

/-! ### zzParseMember -/
def upTo (s : ByteArray) (j : Nat) : Int := val ((s.data.toList.take j).drop 1)

theorem upTo_succ (s : ByteArray) (j : Nat) (h1 : 1 ≤ j) (h : j < s.size) : upTo s (j + 1) = upTo s j * 10 + ((s[j].toNat : Int) - 48) := by
  have e : s.data.toList.take (j + 1) = s.data.toList.take j ++ [s[j]] := by
    rw [List.take_succ_eq_append_getElem (by simpa using h)]; rfl
  unfold upTo
  rw [e, List.drop_append_of_le_length (by simp; omega), val_snoc]

/-- What the reader of a name needs to know of it. -/
structure Good (s : ByteArray) (u : Int) : Prop where
  lo : 2 ≤ s.size
  hi : s.size ≤ 8
  m : ∀ h : 0 < s.size, s[0] = 109
  one : ∀ h : 1 < s.size, s[1].toNat ≠ 48
  dig : ∀ j, 1 ≤ j → ∀ h : j < s.size, 48 ≤ s[j].toNat ∧ s[j].toNat ≤ 57
  val : upTo s s.size = u

theorem name_list (k : Nat) : (name k).data.toList = 109 :: Lib.decDigits (k + 1) := by simp [name]
theorem at_list (s : ByteArray) (k : Nat) (h : k < s.size) : s.data.toList[k]? = some s[k] := by
  rw [List.getElem?_eq_getElem (by simpa using h)]; rfl
theorem good_name (k : Nat) (hk : k ≤ 70000) : Good (name k) ((k : Int) + 1) := by
  have hl := length_decDigits (k + 1) (by omega)
  have hs : (name k).size = (Lib.decDigits (k + 1)).length + 1 := by
    have := congrArg List.length (name_list k)
    simpa using this
  obtain ⟨c, l, hc, hne⟩ := head_decDigits (k + 1) (by omega)
  refine ⟨by omega, by omega, fun h => ?_, fun h => ?_, fun j h1 h => ?_, ?_⟩
  · have := at_list (name k) 0 h
    rw [name_list] at this
    simpa using this.symm
  · have := at_list (name k) 1 h
    rw [name_list, hc] at this
    simp at this
    rw [← this]; exact hne
  · have := at_list (name k) j h
    rw [name_list] at this
    obtain ⟨j', rfl⟩ : ∃ j', j = j' + 1 := ⟨j - 1, by omega⟩
    rw [List.getElem?_cons_succ] at this
    exact decDigits_digits (k + 1) _ (List.mem_of_getElem? this)
  · unfold upTo
    rw [List.take_of_length_le (by simp), name_list]
    simp only [List.drop_succ_cons, List.drop_zero]
    rw [val_decDigits]; omega

theorem good_bound {s : ByteArray} {u : Int} (h : Good s u) (j : Nat) (hj : j ≤ s.size) : 0 ≤ upTo s j ∧ upTo s j < 10000000 := by
  refine val_small _ (fun c hc => ?_) (by have := h.hi; simp; omega)
  obtain ⟨i, hi⟩ := List.mem_iff_getElem?.1 hc
  rw [List.getElem?_drop, List.getElem?_take] at hi
  split at hi
  · rename_i hlt
    have hlt2 : 1 + i < s.size := by omega
    rw [at_list s (1 + i) hlt2] at hi
    have := h.dig (1 + i) (by omega) hlt2
    rw [Option.some.inj hi] at this
    exact this
  · cases hi

theorem ret_pair {k : IntKind} {a b : Int} {v : Value} (h : a = b) : Ending.returned (.tuple #[.int k a, v]) = .returned (.tuple #[.int k b, v]) := by rw [h]

set_option maxHeartbeats 400000 in
theorem parse_any (s : ByteArray) (u : Int) (hg : Good s u) (w : World) :
    Calls Tryd.prog 5 #[.string s] w fun e w' => e = .returned (.tuple #[.int .i64 u, .bool true]) ∧ w = w' := by
  have lo := hg.lo
  have hi := hg.hi
  have HG : Hid (Good s u) := hg
  have p0 : 0 < s.size := by omega
  have p1 : 1 < s.size := by omega
  have e0 := hg.m p0
  have e1 : ((s[1].toNat : Int) == 48) = false := by
    have := hg.one p1
    simp; omega
  clear hg
  go_enter Tryd.func5, Tryd.ntmps5
  go_wp2
  clear e0 e1
  go_loop [4, 5] (fun v i => ∃ j : Nat, 1 ≤ j ∧ j ≤ s.size ∧ i = .int .i64 j ∧ v = .int .i64 (upTo s j)) (fun _ i => s.size - (intOf i).toNat)
  case atStart => exact ⟨1, by omega, by omega, rfl, by simp [upTo, val]⟩
  case round =>
    obtain ⟨j, h1, hj, rfl, rfl⟩ := hrel
    have hb := good_bound HG.out j hj
    by_cases hlt : j < s.size
    · have HS : Hid (upTo s (j + 1) = upTo s j * 10 + ((s[j].toNat : Int) - 48)) := upTo_succ s j h1 hlt
      have hd := HG.out.dig j h1 hlt
      have d1 : (48 : Int) ≤ (s[j].toNat : Int) := by omega
      have d2 : (s[j].toNat : Int) ≤ 57 := by omega
      clear hd
      generalize upTo s j = a at *
      go_wp2
      go_round
      case rel => exact ⟨j + 1, by omega, by omega, by go_num, by rw [HS.out]⟩
      case measure => simp [intOf]; omega
    · obtain rfl : j = s.size := by omega
      have HV : Hid (upTo s s.size = u) := HG.out.val
      go_wp2
      go_ret2
      exact ⟨ret_pair HV.out, rfl⟩

end Go.Proofs.Qxb6618423aDoor
