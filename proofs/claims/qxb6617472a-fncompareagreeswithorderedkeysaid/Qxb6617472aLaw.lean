/-
  THE WALKS, last part: zzBytes, the law.
-/
import Derived.Test.Qxb6617472aWk2
import Derived.Test.Qxb6617472aWk4
import Derived.OpenShut
namespace Go.Proofs.Qxb6617472a
open Go.RowKit Plain

set_option maxHeartbeats 400000 in
theorem zzBytes_any (a0 a4 a5 a6 a10 a11 : ByteArray) (a1 a2 a3 a7 a8 a9 : Int) (w : World)
    (w0 : a0.size ≤ maxLen) (w4 : a4.size ≤ maxLen) (w5 : a5.size ≤ maxLen) (w6 : a6.size ≤ maxLen) (w10 : a10.size ≤ maxLen) (w11 : a11.size ≤ maxLen) :
    Calls Try.prog 4 #[.string a0, .int .i64 a1, .int .i64 a2, .int .i64 a3, .string a4, .string a5, .string a6, .int .i64 a7, .int .i64 a8, .int .i64 a9, .string a10, .string a11] w
      fun e w' => (∃ b, e = .returned (.bool b)) ∧ w = w' := by
  unfold maxLen at *
  go_enter Try.func4, Try.ntmps4
  go_wp2
  all_goals go_ret
  all_goals exact ⟨⟨_, rfl⟩, rfl⟩

theorem ret_bool {a b : Bool} (h : a = b) : Ending.returned (.bool a) = .returned (.bool b) := by rw [h]

theorem row_below {B : Nat} {v : Value} {xs : List Int} {w w' : World} (h : Row w B v xs) (hb : Below w.heap.size w w') : Row w' B v xs := by
  refine ⟨h.1, ?_⟩
  rcases h.2 with hn | ⟨g, cap, cur, e, hB, hg, rest⟩
  · exact .inl hn
  · exact .inr ⟨g, cap, cur, e, hB, by rw [hb.block g (Array.getElem?_eq_some_iff.1 hg).1]; exact hg, rest⟩

theorem row_open {B : Nat} {v : Value} {xs : List Int} {w : World} (h : Row w B v xs) (hne : 0 < xs.length) :
    ∃ g cap, v = .slice (some ⟨g, 0, none⟩) xs.length cap ∧ ∀ j, j < xs.length → w.cell? ⟨g, j, none⟩ = some (.int .u8 (xs.getD j 0)) := by
  rcases h.2 with ⟨_, hn⟩ | ⟨g, cap, cur, e, hB, hg, rest⟩
  · omega
  · refine ⟨g, cap, e, fun j hj => ?_⟩
    have := World.ownsRow.cellAt (e ▸ h : w.ownsRow B 5 1 (.slice (some ⟨g, 0, none⟩) xs.length cap) xs.length (xs.map (Value.int .u8))) j (by omega)
    rw [this, List.getElem?_map]
    simp [hj]

theorem bcell {W w1 : World} (hb : Below W.heap.size W w1) : (∀ b o, b < W.heap.size → w1.cell? ⟨b, o, none⟩ = W.cell? ⟨b, o, none⟩) ∧ (∀ b o, b < W.heap.size → w1.frozen? ⟨b, o, none⟩ = W.frozen? ⟨b, o, none⟩) :=
  ⟨fun b o h => hb.cell (p := ⟨b, o, none⟩) h, fun b o h => hb.frozen (p := ⟨b, o, none⟩) h⟩

theorem key_pos (p : List UInt8) (l c : Int) (r m : List UInt8) : 0 < (key p l c r m).length := by
  simp only [key, encS, List.length_append, be_length, List.length_cons, List.length_nil]
  omega

theorem i64_range {a : Int} (h : (Lit.int .i64 a).wf = true) : -9223372036854775808 ≤ a ∧ a ≤ 9223372036854775807 := by
  have := bounds_i64 h
  omega

set_option maxHeartbeats 800000 in
theorem law_walk (a0 : ByteArray) (a1 : Int) (a2 : Int) (a3 : Int) (a4 : ByteArray) (a5 : ByteArray) (a6 : ByteArray) (a7 : Int) (a8 : Int) (a9 : Int) (a10 : ByteArray) (a11 : ByteArray) (w0 : a0.size ≤ maxLen) (w1 : (Lit.int .i64 a1).wf = true) (w2 : (Lit.int .i64 a2).wf = true) (w4 : a4.size ≤ maxLen) (w5 : a5.size ≤ maxLen) (w6 : a6.size ≤ maxLen) (w7 : (Lit.int .i64 a7).wf = true) (w8 : (Lit.int .i64 a8).wf = true) (w10 : a10.size ≤ maxLen) (w11 : a11.size ≤ maxLen) (w : World) :
    Calls Try.prog 3 #[.string a0, .int .i64 a1, .int .i64 a2, .int .i64 a3, .string a4, .string a5, .string a6, .int .i64 a7, .int .i64 a8, .int .i64 a9, .string a10, .string a11] w fun e w' => e = .returned (.bool true) ∧ Below w.heap.size w w' := by
  have zz := zzBytes_any a0 a4 a5 a6 a10 a11 a1 a2 a3 a7 a8 a9 w w0 w4 w5 w6 w10 w11
  have r1 := i64_range w1
  have r2 := i64_range w2
  have r7 := i64_range w7
  have r8 := i64_range w8
  clear w1 w2 w7 w8
  unfold maxLen at *
  by_cases hall : a0.size ≤ 131072 ∧ a4.size ≤ 131072 ∧ a5.size ≤ 131072 ∧ a6.size ≤ 131072 ∧ a10.size ≤ 131072 ∧ a11.size ≤ 131072
  · obtain ⟨l0, l4, l5, l6, l10, l11⟩ := hall
    have HK : Hid (cmpB (key a0.data.toList a1 a2 a4.data.toList a5.data.toList) (key a6.data.toList a7 a8 a10.data.toList a11.data.toList) = cmpF a0.toList a1 a2 a4.toList a5.toList a6.toList a7 a8 a10.toList a11.toList) := by
      show _ = _
      simp only [ByteArray.toList_eq]
      exact key_cmp _ _ _ _ _ _ _ _ _ _ r1 r7 r2 r8
    have kl : (key a0.data.toList a1 a2 a4.data.toList a5.data.toList).length ≤ 1000000 := by
      have := key_length a0.data.toList a1 a2 a4.data.toList a5.data.toList
      simp at this; omega
    have kl' : (key a6.data.toList a7 a8 a10.data.toList a11.data.toList).length ≤ 1000000 := by
      have := key_length a6.data.toList a7 a8 a10.data.toList a11.data.toList
      simp at this; omega
    clear r1 r2 r7 r8
    go_enter Try.func3, Try.ntmps3
    go_wp2_with fail
    refine zz.mono ?_
    rintro e w' ⟨⟨b, rfl⟩, rfl⟩
    clear zz
    cases b
    · go_wp2_with fail
      go_ret
      exact ⟨rfl, Below.refl _ _⟩
    · go_wp2_with fail
      refine (key_any a0 a4 a5 a1 a2 _ l0 l4 l5).mono ?_
      rintro e x1 ⟨v1, rfl, R1, B1⟩
      go_wp2_with fail
      refine (key_any a6 a10 a11 a7 a8 _ l6 l10 l11).mono ?_
      rintro e x2 ⟨v2, rfl, R2, B2⟩
      have R1' := row_below R1 B2
      clear R1
      obtain ⟨g1, c1, hv1, hc1⟩ := row_open R1' (key_pos _ _ _ _ _)
      obtain ⟨g2, c2, hv2, hc2⟩ := row_open R2 (key_pos _ _ _ _ _)
      clear R1' R2
      rw [hv1, hv2]
      clear hv1 hv2
      go_wp2_with fail
      refine (bytes_any g1 g2 _ _ c1 c2 _ _ x2 rfl rfl (by omega) (by omega) hc1 hc2).mono ?_
      rintro e x3 ⟨rfl, hq⟩
      have B3 : Below x2.heap.size x2 x3 := by obtain ⟨q, rfl⟩ := hq; exact ⟨rfl, rfl, rfl, Nat.le_refl _, fun _ _ => rfl⟩
      have s1 := B1.size
      have s2 := B2.size
      have B : Below w.heap.size w x3 := (B1.trans (B2.mono s1)).trans (B3.mono (by omega))
      clear hq B1 B2 B3 s1 s2
      rw [HK.out]
      have HN : Hid (cmpF a6.toList a7 a8 a10.toList a11.toList a0.toList a1 a2 a4.toList a5.toList = -cmpF a0.toList a1 a2 a4.toList a5.toList a6.toList a7 a8 a10.toList a11.toList) := cmpF_neg _ _ _ _ _ _ _ _ _ _
      have HR : Hid (cmpF a0.toList a1 a2 a4.toList a5.toList a6.toList a7 a8 a10.toList a11.toList = -1 ∨ cmpF a0.toList a1 a2 a4.toList a5.toList a6.toList a7 a8 a10.toList a11.toList = 0 ∨ cmpF a0.toList a1 a2 a4.toList a5.toList a6.toList a7 a8 a10.toList a11.toList = 1) := by
        show _ ∨ _ ∨ _
        rw [← HK.out]; exact cmpB_range _ _
      have C1 := compare_any a0 a4 a5 a6 a10 a11 a1 a2 a3 a7 a8 a9
      have C2 := compare_any a6 a10 a11 a0 a4 a5 a7 a8 a9 a1 a2 a3
      rw [HN.out] at C2
      clear hc1 hc2 HK kl kl' HN
      generalize cmpF a0.toList a1 a2 a4.toList a5.toList a6.toList a7 a8 a10.toList a11.toList = y at *
      generalize (key a0.data.toList a1 a2 a4.data.toList a5.data.toList).length = n1
      generalize (key a6.data.toList a7 a8 a10.data.toList a11.data.toList).length = n2
      go_wp2_with fail
      refine (C1 _).mono ?_
      rintro e x4 ⟨rfl, B4⟩
      obtain ⟨hc, hf⟩ := bcell B4
      have hz : x3.heap.size + 1 < x4.heap.size := by have := B4.size; simp at this; omega
      have BB : Below w.heap.size w x4 := ((B.alloc B.size _).alloc (by have := B.size; simp; omega) _).trans (B4.mono (by have := B.size; simp; omega))
      clear C1 B4
      go_wp2_with fail
      refine (C2 _).mono ?_
      rintro e x5 ⟨rfl, B5⟩
      have BE : Below w.heap.size w x5 := BB.trans (B5.mono BB.size)
      clear C2 hc hf B5
      rcases HR.out with rfl | rfl | rfl
      · go_wp2
        go_ret
        exact ⟨rfl, BE⟩
      · go_wp2
        go_ret
        exact ⟨rfl, BE⟩
      · go_wp2
        go_ret
        exact ⟨rfl, BE⟩
  · clear r1 r2 r7 r8
    go_enter Try.func3, Try.ntmps3
    go_wp2_with (go_at_call 4; refine zz.mono ?_; rintro e w' ⟨⟨b, rfl⟩, rfl⟩; cases b)
    all_goals (go_ret; exact ⟨rfl, Below.refl _ _⟩)

end Go.Proofs.Qxb6617472a
