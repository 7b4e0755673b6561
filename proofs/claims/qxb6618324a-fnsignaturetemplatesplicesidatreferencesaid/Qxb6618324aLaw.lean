/-
  THE LAW's WALK: what the empty template is, where the mark stands in it, the law.
-/
import Derived.Test.Qxb6618324aWk1
import Derived.Deep.QuietTactic
import Derived.BigQuiet
namespace Go.Proofs.Qxb6618324a
open Go.RowKit

def bs : List UInt8 := b1 ++ b2 ++ b3 ++ b4 ++ b5
def mark : List UInt8 := [85, 82, 73, 61, 34, 35]
def E : ByteArray := tmpl ⟨#[]⟩

theorem data_append (a b : ByteArray) : (a ++ b).data.toList = a.data.toList ++ b.data.toList := by
  simp [ByteArray.data_append]
theorem tmpl_list (s : ByteArray) : (tmpl s).data.toList = b0 ++ (s.data.toList ++ bs) := by
  simp only [tmpl, data_append, pc, List.append_assoc, bs]
theorem E_list : E.data.toList = b0 ++ bs := by
  unfold E; rw [tmpl_list]; rfl
theorem b0_length : b0.length = 258 := by decide +kernel
theorem bs_length : bs.length = 334 := by decide +kernel
theorem size_list (s : ByteArray) : s.size = s.data.toList.length := by simp
theorem E_size : E.size = 592 := by
  rw [size_list, E_list, List.length_append, b0_length, bs_length]
theorem E_find : findL mark (b0 ++ bs) 0 = 252 := by decide +kernel
theorem E_find2 : findL mark bs 0 = -1 := by decide +kernel
theorem bs_head : bs.head? = some 34 := by decide +kernel
theorem at_list (s : ByteArray) (k : Nat) (h : k < s.size) : s.data.toList[k]? = some s[k] := by
  rw [List.getElem?_eq_getElem (by simpa using h)]; rfl
theorem E_at (h : 258 < E.size) : E[258] = 34 := by
  have e : E.data.toList[258]? = some 34 := by
    rw [E_list, List.getElem?_append_right (by rw [b0_length]; omega), b0_length]
    rw [← List.head?_eq_getElem?]
    exact bs_head
  rw [at_list E 258 h] at e
  exact Option.some.inj e
theorem ext_list (s : ByteArray) (a b : Nat) : (s.extract a b).data.toList = (s.data.toList.drop a).take (b - a) := by
  rw [ByteArray.data_extract, Array.toList_extract]
theorem E_tail : (E.extract 258 592).data.toList = bs := by
  rw [ext_list, E_list, List.drop_append_of_le_length (by rw [b0_length]; omega), List.drop_of_length_le (by rw [b0_length]; omega), List.nil_append, List.take_of_length_le (by rw [bs_length]; omega)]
theorem E_head : (E.extract 0 258).data.toList = b0 := by
  rw [ext_list, E_list, List.drop_zero, List.take_append_of_le_length (by rw [b0_length]; omega), List.take_of_length_le (by rw [b0_length]; omega)]
theorem bytes_eq {a b : ByteArray} (h : a.data.toList = b.data.toList) : a = b := by
  cases a; cases b; simp at h; simp [h]
theorem splice (s : ByteArray) : tmpl s = E.extract 0 258 ++ s ++ E.extract 258 592 := by
  apply bytes_eq
  rw [tmpl_list, data_append, data_append, E_head, E_tail, List.append_assoc]

theorem ret_bool {a b : Bool} (h : a = b) : Ending.returned (.bool a) = .returned (.bool b) := by rw [h]

set_option maxHeartbeats 400000 in
theorem law_walk (a0 : ByteArray) (w0 : a0.size ≤ maxLen) (w : World) :
    Calls Try.prog 3 #[.string a0] w fun e w' => e = .returned (.bool true) ∧ Grown w w' := by
  unfold maxLen at w0
  by_cases hlen : a0.size ≤ 65536
  · have S1 := fun w => sig_any a0 w (by omega)
    have S2 : ∀ w, Calls Try.prog 5 #[.string ⟨#[]⟩] w fun e w' => e = .returned (.string E) ∧ w = w' := fun w => sig_any ⟨#[]⟩ w (by decide)
    have I1 := fun w => index_any E ⟨#[85, 82, 73, 61, 34, 35]⟩ w (by rw [E_size]; omega) (by decide) (by decide)
    have I2 := fun w => index_any (E.extract 258 592) ⟨#[85, 82, 73, 61, 34, 35]⟩ w (by rw [size_list, E_tail, bs_length]; omega) (by decide) (by decide)
    rw [E_list, show (ByteArray.mk #[85, 82, 73, 61, 34, 35]).data.toList = mark from rfl, E_find] at I1
    rw [E_tail, show (ByteArray.mk #[85, 82, 73, 61, 34, 35]).data.toList = mark from rfl, E_find2] at I2
    have hat : ∀ h : 258 < E.size, E[258] = 34 := E_at
    have hsz := E_size
    have HS : Hid (tmpl a0 = E.extract 0 258 ++ a0 ++ E.extract 258 592) := splice a0
    generalize tmpl a0 = T at *
    generalize E = em at *
    go_enter Try.func3, Try.ntmps3
    go_wp2_with fail
    go_in
    go_wp2_with fail
    refine (S1 _).mono ?_
    rintro e w' ⟨rfl, rfl⟩
    go_wp2_with fail
    refine (S2 _).mono ?_
    rintro e w' ⟨rfl, rfl⟩
    go_wp2_with fail
    refine (I1 _).mono ?_
    rintro e w' ⟨rfl, rfl⟩
    go_wp2_with fail
    refine (I2 _).mono ?_
    rintro e w' ⟨rfl, rfl⟩
    clear S1 S2 I1 I2
    go_wp2_with fail
    have hb1 : (em.extract 0 258).size = 258 := by simp; omega
    have hb2 : (em.extract 258 592).size = 334 := by simp; omega
    go_quiet (fail)
    go_wp2
    go_ret
    exact ⟨ret_bool (by rw [HS.out]; simp), (Grown.refl w : Grown w (w.drewN nq))⟩
  · go_enter Try.func3, Try.ntmps3
    go_wp2
    all_goals (go_ret; exact ⟨rfl, Grown.refl _⟩)

end Go.Proofs.Qxb6618324a
