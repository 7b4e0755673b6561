/-
  THE WALKS, fourth part: zzCmpKey, zzCmpBytes.
-/
import Derived.Test.Qxb6617472aWk3
import Derived.Deep.QuietTactic
import Derived.BigQuiet
namespace Go.Proofs.Qxb6617472a
open Go.RowKit Plain

theorem key_length (p : List UInt8) (l c : Int) (r m : List UInt8) : (key p l c r m).length ≤ 2 * p.length + 2 * r.length + 2 * m.length + 22 := by
  have h1 := escB_length p
  have h2 := escB_length r
  have h3 := escB_length m
  simp only [key, encS, List.length_append, be_length, List.length_cons, List.length_nil]
  omega
theorem encS_length (p : List UInt8) : (encS p).length ≤ 2 * p.length + 2 := by
  have h1 := escB_length p
  simp only [encS, List.length_append, List.length_cons, List.length_nil]
  omega

set_option maxHeartbeats 400000 in
theorem key_any (p r m : ByteArray) (l c : Int) (w : World) (hp : p.size ≤ 131072) (hr : r.size ≤ 131072) (hm : m.size ≤ 131072) :
    Calls Try.prog 5 #[.string p, .int .i64 l, .int .i64 c, .string r, .string m] w fun e w' => ∃ v', e = .returned v' ∧ Row w' w.heap.size v' (key p.data.toList l c r.data.toList m.data.toList) ∧ Below w.heap.size w w' := by
  have lp : (encS p.data.toList).length ≤ 300000 := by have := encS_length p.data.toList; simp at this; omega
  have lr : (encS r.data.toList).length ≤ 300000 := by have := encS_length r.data.toList; simp at this; omega
  have hR0 : Row w w.heap.size (.slice none 0 0) [] := World.ownsRow_nil _ _ _ _
  go_enter Try.func5, Try.ntmps5
  go_wp2_with fail
  refine (appStr_any w.heap.size (.slice none 0 0) [] p w hp (by simp) (Nat.le_refl _) hR0).mono ?_
  rintro e w1 ⟨v1, rfl, R1, B1⟩
  have s1 := B1.size
  clear hR0
  go_wp2_with fail
  refine (appInt_any w.heap.size v1 _ l w1 ?_ s1 R1).mono ?_
  · simp; omega
  rintro e w2 ⟨v2, rfl, R2, B2⟩
  have s2 := B2.size
  clear R1
  go_wp2_with fail
  refine (appInt_any w.heap.size v2 _ c w2 ?_ (by omega) R2).mono ?_
  · simp [be_length]; omega
  rintro e w3 ⟨v3, rfl, R3, B3⟩
  have s3 := B3.size
  clear R2
  go_wp2_with fail
  refine (appStr_any w.heap.size v3 _ r w3 hr ?_ (by omega) R3).mono ?_
  · simp [be_length]; omega
  rintro e w4 ⟨v4, rfl, R4, B4⟩
  have s4 := B4.size
  clear R3
  go_wp2_with fail
  refine (appStr_any w.heap.size v4 _ m w4 hm ?_ (by omega) R4).mono ?_
  · simp [be_length]; omega
  rintro e w5 ⟨v5, rfl, R5, B5⟩
  clear R4
  go_wp2
  go_ret
  refine ⟨_, rfl, ?_, (((B1.trans B2).trans B3).trans B4).trans B5⟩
  simpa [key] using R5

theorem drew3 (w : World) (a b c : Nat) : ((w.drewN a).drewN b).drewN c = w.drewN (a + (b + c)) := by rw [World.drewN_drewN, World.drewN_drewN]

theorem cmpB_drop (xs ys : List Int) (k : Nat) (hx : k < xs.length) (hy : k < ys.length) :
    cmpB (xs.drop k) (ys.drop k) = if xs.getD k 0 = ys.getD k 0 then cmpB (xs.drop (k + 1)) (ys.drop (k + 1)) else if xs.getD k 0 < ys.getD k 0 then -1 else 1 := by
  rw [List.drop_eq_getElem_cons hx, List.drop_eq_getElem_cons hy]
  simp [cmpB, hx, hy]

theorem cmpB_nil_left (ys : List Int) : cmpB [] ys = if 0 < ys.length then -1 else 0 := by
  cases ys <;> simp [cmpB]
theorem cmpB_nil_right (xs : List Int) : cmpB xs [] = if 0 < xs.length then 1 else 0 := by
  cases xs <;> simp [cmpB]
theorem cmpB_end_lt (xs ys : List Int) (k : Nat) (hx : xs.length ≤ k) (hy : k < ys.length) : cmpB (xs.drop k) (ys.drop k) = -1 := by
  rw [List.drop_of_length_le hx, cmpB_nil_left, if_pos (by simp; omega)]
theorem cmpB_end_gt (xs ys : List Int) (k : Nat) (hx : k < xs.length) (hy : ys.length ≤ k) : cmpB (xs.drop k) (ys.drop k) = 1 := by
  rw [List.drop_of_length_le hy, cmpB_nil_right, if_pos (by simp; omega)]
theorem cmpB_end_eq (xs ys : List Int) (k : Nat) (hx : xs.length ≤ k) (hy : ys.length ≤ k) : cmpB (xs.drop k) (ys.drop k) = 0 := by
  rw [List.drop_of_length_le hy, List.drop_of_length_le hx]; rfl

set_option maxHeartbeats 400000 in
theorem bytes_any (g g' n n' cap cap' : Nat) (xs ys : List Int) (w : World) (hn : xs.length = n) (hn' : ys.length = n') (bn : n ≤ 1000000000) (bn' : n' ≤ 1000000000)
    (hc : ∀ j, j < n → w.cell? ⟨g, j, none⟩ = some (.int .u8 (xs.getD j 0))) (hc' : ∀ j, j < n' → w.cell? ⟨g', j, none⟩ = some (.int .u8 (ys.getD j 0))) :
    Calls Try.prog 6 #[.slice (some ⟨g, 0, none⟩) n cap, .slice (some ⟨g', 0, none⟩) n' cap'] w fun e w' => e = .returned (.int .i64 (cmpB xs ys)) ∧ ∃ q, w' = w.drewN q := by
  have HN : Hid (xs.length = n ∧ ys.length = n') := ⟨hn, hn'⟩
  clear hn hn'
  by_cases hlen : n' < n
  all_goals
    go_enter Try.func6, Try.ntmps6
    go_wp2
    go_loopw [6] (fun i wr => ∃ k q : Nat, k ≤ n ∧ k ≤ n' ∧ i = .int .i64 k ∧ wr = w.drewN q ∧ cmpB xs ys = cmpB (xs.drop k) (ys.drop k)) (fun i _ => n - (intOf i).toNat)
    case atStart => exact ⟨0, 0, Nat.zero_le _, Nat.zero_le _, rfl, rfl, rfl⟩
    case round =>
      obtain ⟨k, q, hk, hk', rfl, rfl, hf⟩ := hrel
      have HF : Hid (cmpB xs ys = cmpB (xs.drop k) (ys.drop k)) := hf
      clear hf
      by_cases hlt : k < n ∧ k < n'
      · obtain ⟨l1, l2⟩ := hlt
        have h1 := hc k l1
        have h2 := hc' k l2
        have b1 : (k : Int) < n := by omega
        have b2 : (k : Int) < n' := by omega
        have HS : Hid (cmpB xs ys = _) := HF.out.trans (cmpB_drop xs ys k (by rw [HN.out.1]; omega) (by rw [HN.out.2]; omega))
        clear hc hc' HF
        generalize xs.getD k 0 = x at *
        generalize ys.getD k 0 = y at *
        by_cases hxy : (x != y) = true
        · have hne : ¬ x = y := by simpa using hxy
          have HQ : Hid (cmpB xs ys = if x < y then -1 else 1) := by show _ = _; rw [HS.out, if_neg hne]
          clear hne HS
          by_cases hl : x < y
          · go_wp2
            go_quiet (fail)
            go_wp2
            go_quiet (fail)
            go_wp2
            go_ret
            exact ⟨ret_int (by rw [HQ.out, if_pos hl]), _, drew3 _ _ _ _⟩
          · go_wp2
            go_quiet (fail)
            go_wp2
            go_quiet (fail)
            go_wp2
            go_ret
            exact ⟨ret_int (by rw [HQ.out, if_neg (by omega)]), _, drew3 _ _ _ _⟩
        · have hxy' : (x != y) = false := by simpa using hxy
          have HQ : Hid (cmpB xs ys = cmpB (xs.drop (k + 1)) (ys.drop (k + 1))) := by show _ = _; rw [HS.out, if_pos (by simpa using hxy')]
          clear hxy HS
          go_wp2
          go_quiet (fail)
          go_wp2
          go_roundw
          case rel => exact ⟨k + 1, _, by omega, by omega, by go_num, rfl, HQ.out⟩
          case measure => simp [intOf]; omega
      · clear hc hc'
        by_cases hq : n < n'
        · have HQ := cmpB_end_lt xs ys k (by rw [HN.out.1]; omega) (by rw [HN.out.2]; omega)
          first
            | exact absurd hlen (by omega)
            | (go_wp2; go_ret; exact ⟨ret_int (by rw [HF.out, HQ]), _, rfl⟩)
        · by_cases hq2 : n' < n
          · have HQ := cmpB_end_gt xs ys k (by rw [HN.out.1]; omega) (by rw [HN.out.2]; omega)
            first
              | exact absurd hq2 hlen
              | (go_wp2; go_ret; exact ⟨ret_int (by rw [HF.out, HQ]), _, rfl⟩)
          · have HQ := cmpB_end_eq xs ys k (by rw [HN.out.1]; omega) (by rw [HN.out.2]; omega)
            first
              | exact absurd hlen hq2
              | (go_wp2; go_ret; exact ⟨ret_int (by rw [HF.out, HQ]), _, rfl⟩)

end Go.Proofs.Qxb6617472a
