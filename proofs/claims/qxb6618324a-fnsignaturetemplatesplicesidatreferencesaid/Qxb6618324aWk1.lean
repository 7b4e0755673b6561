/-
  THE WALKS, first part: SignatureTemplate: the six constant pieces, as bytes; what the call hands back.
-/
import Derived.Test.Qxb6618324aRows
import Derived.WalkKit
import Derived.WalkSpells
import Derived.WalkLawsBesides
namespace Go.Proofs.Qxb6618324a
open Go.RowKit

def b0 : List UInt8 := [60, 100, 115, 58, 83, 105, 103, 110, 97, 116, 117, 114, 101, 32, 120, 109, 108, 110, 115, 58, 100, 115, 61, 34, 104, 116, 116, 112, 58, 47, 47, 119, 119, 119, 46, 119, 51, 46, 111, 114, 103, 47, 50, 48, 48, 48, 47, 48, 57, 47, 120, 109, 108, 100, 115, 105, 103, 35, 34, 62, 60, 100, 115, 58, 83, 105, 103, 110, 101, 100, 73, 110, 102, 111, 62, 60, 100, 115, 58, 67, 97, 110, 111, 110, 105, 99, 97, 108, 105, 122, 97, 116, 105, 111, 110, 77, 101, 116, 104, 111, 100, 32, 65, 108, 103, 111, 114, 105, 116, 104, 109, 61, 34, 104, 116, 116, 112, 58, 47, 47, 119, 119, 119, 46, 119, 51, 46, 111, 114, 103, 47, 50, 48, 48, 49, 47, 49, 48, 47, 120, 109, 108, 45, 101, 120, 99, 45, 99, 49, 52, 110, 35, 34, 47, 62, 60, 100, 115, 58, 83, 105, 103, 110, 97, 116, 117, 114, 101, 77, 101, 116, 104, 111, 100, 32, 65, 108, 103, 111, 114, 105, 116, 104, 109, 61, 34, 104, 116, 116, 112, 58, 47, 47, 119, 119, 119, 46, 119, 51, 46, 111, 114, 103, 47, 50, 48, 48, 49, 47, 48, 52, 47, 120, 109, 108, 100, 115, 105, 103, 45, 109, 111, 114, 101, 35, 114, 115, 97, 45, 115, 104, 97, 50, 53, 54, 34, 47, 62, 60, 100, 115, 58, 82, 101, 102, 101, 114, 101, 110, 99, 101, 32, 85, 82, 73, 61, 34, 35]
def b1 : List UInt8 := [34, 62, 60, 100, 115, 58, 84, 114, 97, 110, 115, 102, 111, 114, 109, 115, 62]
def b2 : List UInt8 := [60, 100, 115, 58, 84, 114, 97, 110, 115, 102, 111, 114, 109, 32, 65, 108, 103, 111, 114, 105, 116, 104, 109, 61, 34, 104, 116, 116, 112, 58, 47, 47, 119, 119, 119, 46, 119, 51, 46, 111, 114, 103, 47, 50, 48, 48, 48, 47, 48, 57, 47, 120, 109, 108, 100, 115, 105, 103, 35, 101, 110, 118, 101, 108, 111, 112, 101, 100, 45, 115, 105, 103, 110, 97, 116, 117, 114, 101, 34, 47, 62]
def b3 : List UInt8 := [60, 100, 115, 58, 84, 114, 97, 110, 115, 102, 111, 114, 109, 32, 65, 108, 103, 111, 114, 105, 116, 104, 109, 61, 34, 104, 116, 116, 112, 58, 47, 47, 119, 119, 119, 46, 119, 51, 46, 111, 114, 103, 47, 50, 48, 48, 49, 47, 49, 48, 47, 120, 109, 108, 45, 101, 120, 99, 45, 99, 49, 52, 110, 35, 34, 47, 62, 60, 47, 100, 115, 58, 84, 114, 97, 110, 115, 102, 111, 114, 109, 115, 62]
def b4 : List UInt8 := [60, 100, 115, 58, 68, 105, 103, 101, 115, 116, 77, 101, 116, 104, 111, 100, 32, 65, 108, 103, 111, 114, 105, 116, 104, 109, 61, 34, 104, 116, 116, 112, 58, 47, 47, 119, 119, 119, 46, 119, 51, 46, 111, 114, 103, 47, 50, 48, 48, 49, 47, 48, 52, 47, 120, 109, 108, 101, 110, 99, 35, 115, 104, 97, 50, 53, 54, 34, 47, 62, 60, 100, 115, 58, 68, 105, 103, 101, 115, 116, 86, 97, 108, 117, 101, 47, 62, 60, 47, 100, 115, 58, 82, 101, 102, 101, 114, 101, 110, 99, 101, 62]
def b5 : List UInt8 := [60, 47, 100, 115, 58, 83, 105, 103, 110, 101, 100, 73, 110, 102, 111, 62, 60, 100, 115, 58, 83, 105, 103, 110, 97, 116, 117, 114, 101, 86, 97, 108, 117, 101, 47, 62, 60, 47, 100, 115, 58, 83, 105, 103, 110, 97, 116, 117, 114, 101, 62]
def pc (l : List UInt8) : ByteArray := ⟨l.toArray⟩
def tmpl (s : ByteArray) : ByteArray := pc b0 ++ s ++ pc b1 ++ pc b2 ++ pc b3 ++ pc b4 ++ pc b5

set_option maxRecDepth 100000 in
set_option maxHeartbeats 2000000 in
theorem sig_any (s : ByteArray) (w : World) (hs : s.size ≤ 1000000) :
    Calls Try.prog 5 #[.string s] w fun e w' => e = .returned (.string (tmpl s)) ∧ w = w' := by
  go_enter Try.func5, Try.ntmps5
  go_wp2
  go_ret
  exact ⟨rfl, rfl⟩

/-- The first place at which sub begins in the list, counted from i; or -1. -/
def findL (sub : List UInt8) : List UInt8 → Nat → Int
  | [], i => if sub.isPrefixOf [] then i else -1
  | c :: l, i => if sub.isPrefixOf (c :: l) then i else findL sub l (i + 1)

theorem findL_hit (sub l : List UInt8) (i : Nat) (h : sub.isPrefixOf l = true) : findL sub l i = i := by
  cases l with
  | nil => unfold findL; rw [if_pos h]
  | cons c l => unfold findL; rw [if_pos h]
theorem findL_miss (sub s : List UInt8) (k : Nat) (hk : k < s.length) (h : sub.isPrefixOf (s.drop k) = false) : findL sub (s.drop k) k = findL sub (s.drop (k + 1)) (k + 1) := by
  rw [List.drop_eq_getElem_cons hk] at h ⊢
  rw [findL, if_neg (by rw [h]; simp)]
theorem findL_short (sub l : List UInt8) (i : Nat) (h : l.length < sub.length) : findL sub l i = -1 := by
  have hp : ∀ l : List UInt8, l.length < sub.length → sub.isPrefixOf l = false := by
    intro l hl
    cases hq : sub.isPrefixOf l with
    | false => rfl
    | true =>
      have := (List.isPrefixOf_iff_prefix.1 hq).length_le
      omega
  induction l generalizing i with
  | nil => unfold findL; rw [if_neg (by rw [hp _ h]; simp)]
  | cons c l ih =>
    unfold findL
    rw [if_neg (by rw [hp _ h]; simp)]
    exact ih (i + 1) (by simp at h; omega)

theorem hit_iff (s sub : ByteArray) (k : Nat) : ((s.extract k (k + sub.size)).toList == sub.toList) = sub.data.toList.isPrefixOf (s.data.toList.drop k) := by
  rw [ByteArray.toList_eq, ByteArray.toList_eq]
  have e : (s.extract k (k + sub.size)).data.toList = (s.data.toList.drop k).take sub.size := by
    rw [ByteArray.data_extract, Array.toList_extract]
    simp [List.extract]
  rw [e, Bool.eq_iff_iff]
  simp only [beq_iff_eq, List.isPrefixOf_iff_prefix]
  constructor
  · intro h; rw [← h]; exact List.take_prefix _ _
  · intro h
    have := List.prefix_iff_eq_take.1 h
    rw [this]; simp

theorem ret_int {k : IntKind} {a b : Int} (h : a = b) : Ending.returned (.int k a) = .returned (.int k b) := by rw [h]

set_option maxHeartbeats 400000 in
theorem index_any (s sub : ByteArray) (w : World) (hs : s.size ≤ 100000000) (hb : sub.size ≤ 1000) (hp : 0 < sub.size) :
    Calls Try.prog 6 #[.string s, .string sub] w fun e w' => e = .returned (.int .i64 (findL sub.data.toList s.data.toList 0)) ∧ w = w' := by
  go_enter Try.func6, Try.ntmps6
  go_wp2
  go_loop [5] (fun i => ∃ k : Nat, k ≤ s.size ∧ i = .int .i64 k ∧ findL sub.data.toList s.data.toList 0 = findL sub.data.toList (s.data.toList.drop k) k) (fun i => s.size - (intOf i).toNat)
  case atStart => exact ⟨0, Nat.zero_le _, rfl, by simp⟩
  case round =>
    obtain ⟨k, hk, rfl, hf⟩ := hrel
    have HF : Hid (findL sub.data.toList s.data.toList 0 = findL sub.data.toList (s.data.toList.drop k) k) := hf
    clear hf
    by_cases hlt : k + sub.size ≤ s.size
    · have hi := hit_iff s sub k
      by_cases hh : ((s.extract k (k + sub.size)).toList == sub.toList) = true
      · have HQ : Hid (findL sub.data.toList s.data.toList 0 = k) := HF.out.trans (findL_hit _ _ _ (by rw [← hi]; exact hh))
        clear hi HF
        go_wp2
        go_ret
        exact ⟨ret_int HQ.out.symm, rfl⟩
      · have hh' : ((s.extract k (k + sub.size)).toList == sub.toList) = false := by simpa using hh
        have HQ : Hid (findL sub.data.toList s.data.toList 0 = findL sub.data.toList (s.data.toList.drop (k + 1)) (k + 1)) := HF.out.trans (findL_miss _ _ _ (by simp; omega) (by rw [← hi]; exact hh'))
        clear hi HF hh
        go_wp2
        go_round
        case rel => exact ⟨k + 1, by omega, by go_num, HQ.out⟩
        case measure => simp [intOf]; omega
    · have HQ : Hid (findL sub.data.toList s.data.toList 0 = -1) := HF.out.trans (findL_short _ _ _ (by simp; omega))
      clear HF
      go_wp2
      go_ret
      exact ⟨ret_int HQ.out.symm, rfl⟩

end Go.Proofs.Qxb6618324a
