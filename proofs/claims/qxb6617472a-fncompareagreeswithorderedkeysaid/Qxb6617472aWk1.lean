/-
  THE WALKS, first part: cmp.Compare, cmp.Or, report.Compare, zzCmpSign.
-/
import Derived.Test.Qxb6617472aRows
import Derived.Test.Qxb6617472aPlain
import Derived.WalkKit
import Derived.WalkSpells
import Derived.WalkLawsBesides
import Derived.StillTactics
import Derived.StillTailTactics
namespace Go.Proofs.Qxb6617472a
open Go.RowKit Plain

theorem ret_int {k : IntKind} {a b : Int} (h : a = b) : Ending.returned (.int k a) = .returned (.int k b) := by rw [h]

theorem cmpS_of_less (x y : List UInt8) (h : Op.bytesLess x y = true) : cmpS x y = -1 := by
  induction x generalizing y with
  | nil => cases y with
    | nil => simp [Op.bytesLess] at h
    | cons d y => rfl
  | cons c x ih => cases y with
    | nil => simp [Op.bytesLess] at h
    | cons d y =>
      simp only [Op.bytesLess, Bool.or_eq_true, decide_eq_true_eq, Bool.and_eq_true, beq_iff_eq] at h
      simp only [cmpS]
      rcases h with h | ⟨rfl, h⟩
      · have hn : ¬ c = d := by
          intro e; subst e; rw [UInt8.lt_iff_toNat_lt] at h; omega
        rw [if_neg hn, if_pos h]
      · rw [if_pos rfl]; exact ih y h

theorem cmpS_self (x : List UInt8) : cmpS x x = 0 := by
  induction x with
  | nil => rfl
  | cons c x ih => simp [cmpS, ih]

theorem cmpS_of_not (x y : List UInt8) (h : Op.bytesLess x y = false) (hn : (x == y) = false) : cmpS x y = 1 := by
  induction x generalizing y with
  | nil => cases y with
    | nil => simp at hn
    | cons d y => simp [Op.bytesLess] at h
  | cons c x ih => cases y with
    | nil => rfl
    | cons d y =>
      simp only [Op.bytesLess, Bool.or_eq_false_iff, decide_eq_false_iff_not, Bool.and_eq_false_iff] at h
      simp only [cmpS]
      by_cases e : c = d
      · subst e
        rw [if_pos rfl]
        apply ih
        · rcases h.2 with h2 | h2
          · simp at h2
          · exact h2
        · simpa using hn
      · rw [if_neg e, if_neg h.1]

set_option maxHeartbeats 400000 in
theorem cmpStr_any (a b : ByteArray) (w : World) :
    Calls Try.prog 12 #[.string a, .string b] w fun e w' => e = .returned (.int .i64 (cmpS a.toList b.toList)) ∧ w' = w := by
  by_cases h1 : Op.bytesLess a.toList b.toList = true
  · have HR : Hid (cmpS a.toList b.toList = -1) := cmpS_of_less _ _ h1
    go_enter Try.func12, Try.ntmps12
    go_wp2
    go_ret
    exact ⟨ret_int HR.out.symm, rfl⟩
  · have h1' : Op.bytesLess a.toList b.toList = false := by simpa using h1
    by_cases h2 : (a.toList == b.toList) = true
    · have HR : Hid (cmpS a.toList b.toList = 0) := by
        have : a.toList = b.toList := by simpa using h2
        rw [this]; exact cmpS_self _
      clear h1
      go_enter Try.func12, Try.ntmps12
      go_wp2
      go_ret
      exact ⟨ret_int HR.out.symm, rfl⟩
    · have h2' : (a.toList == b.toList) = false := by simpa using h2
      have HR : Hid (cmpS a.toList b.toList = 1) := cmpS_of_not _ _ h1' h2'
      clear h1 h2
      go_enter Try.func12, Try.ntmps12
      go_wp2
      go_ret
      exact ⟨ret_int HR.out.symm, rfl⟩

set_option maxHeartbeats 400000 in
theorem cmpInt_any (a b : Int) (w : World) :
    Calls Try.prog 13 #[.int .i64 a, .int .i64 b] w fun e w' => e = .returned (.int .i64 (cmpI a b)) ∧ w' = w := by
  by_cases h1 : a < b
  · have HR : Hid (cmpI a b = -1) := by unfold cmpI; exact if_pos h1
    go_enter Try.func13, Try.ntmps13
    go_wp2
    go_ret
    exact ⟨ret_int HR.out.symm, rfl⟩
  · by_cases h2 : b < a
    · have HR : Hid (cmpI a b = 1) := by show cmpI a b = 1; unfold cmpI; rw [if_neg h1, if_pos h2]
      go_enter Try.func13, Try.ntmps13
      go_wp2
      go_ret
      exact ⟨ret_int HR.out.symm, rfl⟩
    · have HR : Hid (cmpI a b = 0) := by show cmpI a b = 0; unfold cmpI; rw [if_neg h1, if_neg h2]
      go_enter Try.func13, Try.ntmps13
      go_wp2
      go_ret
      exact ⟨ret_int HR.out.symm, rfl⟩

set_option maxHeartbeats 400000 in
theorem sign_any (x : Int) (w : World) :
    Calls Try.prog 8 #[.int .i64 x] w fun e w' => e = .returned (.int .i64 (sgn x)) ∧ w' = w := by
  by_cases h1 : x < 0
  · have HR : Hid (sgn x = -1) := by unfold sgn; exact if_pos h1
    go_enter Try.func8, Try.ntmps8
    go_wp2
    go_ret
    exact ⟨ret_int HR.out.symm, rfl⟩
  · by_cases h2 : 0 < x
    · have HR : Hid (sgn x = 1) := by show sgn x = 1; unfold sgn; rw [if_neg h1, if_pos h2]
      go_enter Try.func8, Try.ntmps8
      go_wp2
      go_ret
      exact ⟨ret_int HR.out.symm, rfl⟩
    · have HR : Hid (sgn x = 0) := by show sgn x = 0; unfold sgn; rw [if_neg h1, if_neg h2]
      go_enter Try.func8, Try.ntmps8
      go_wp2
      go_ret
      exact ⟨ret_int HR.out.symm, rfl⟩

def firstNZ : List Int → Int
  | [] => 0
  | x :: l => orI x (firstNZ l)
theorem firstNZ_drop (zs : List Int) (k : Nat) (h : k < zs.length) : firstNZ (zs.drop k) = orI (zs.getD k 0) (firstNZ (zs.drop (k + 1))) := by
  rw [List.drop_eq_getElem_cons h]
  simp [firstNZ, h]

theorem orI_yes {a b : Int} (h : (a != 0) = true) : orI a b = a := by unfold orI; rw [if_neg (by simpa using h)]
theorem orI_no {a b : Int} (h : (a != 0) = false) : orI a b = b := by unfold orI; rw [if_pos (by simpa using h)]

set_option maxHeartbeats 400000 in
theorem or_any (b n : Nat) (zs : List Int) (hn : zs.length = n) (hm : n ≤ 100) (w : World) (hc : ∀ j, j < n → w.cell? ⟨b, j, none⟩ = some (.int .i64 (zs.getD j 0))) :
    Calls Try.prog 11 #[.slice (some ⟨b, 0, none⟩) n n] w fun e w' => e = .returned (.int .i64 (firstNZ zs)) ∧ w' = w := by
  have HN : Hid (zs.length = n) := hn
  clear hn
  go_enter Try.func11, Try.ntmps11
  go_wp2
  go_loop [8] (fun i => ∃ k : Nat, k ≤ n ∧ i = .int .i64 k ∧ firstNZ zs = firstNZ (zs.drop k)) (fun i => n - (intOf i).toNat)
  case atStart => exact ⟨0, Nat.zero_le _, rfl, rfl⟩
  case round =>
    obtain ⟨k, hk, rfl, hf⟩ := hrel
    have HF : Hid (firstNZ zs = firstNZ (zs.drop k)) := hf
    clear hf
    by_cases hlt : k < n
    · have hcell := hc k hlt
      clear hc
      generalize hz : zs.getD k 0 = z at hcell
      have HS : Hid (firstNZ zs = orI z (firstNZ (zs.drop (k + 1)))) := by
        show _ = _
        rw [HF.out, firstNZ_drop zs k (by rw [HN.out]; exact hlt), hz]
      clear hz
      by_cases hz0 : (z != 0) = true
      · go_wp2
        go_ret
        exact ⟨ret_int (by rw [HS.out, orI_yes hz0]), rfl⟩
      · have hz1 : (z != 0) = false := by simpa using hz0
        clear hz0
        go_wp2
        go_round
        case rel => exact ⟨k + 1, by omega, by go_num, by rw [HS.out, orI_no hz1]⟩
        case measure => simp [intOf]; omega
    · clear hc
      go_wp2
      go_ret
      exact ⟨ret_int (by rw [HF.out, List.drop_of_length_le (by rw [HN.out]; omega)]; rfl), rfl⟩

end Go.Proofs.Qxb6617472a
