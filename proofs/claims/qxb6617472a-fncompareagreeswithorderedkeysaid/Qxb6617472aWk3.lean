/-
  THE WALKS, third part: zzCmpAppendString, zzCmpAppendInt.
-/
import Derived.Test.Qxb6617472aWk1
namespace Go.Proofs.Qxb6617472a
open Go.RowKit Plain

/-- The slice value v owns the bytes xs. -/
def Row (w : World) (base : Nat) (v : Value) (xs : List Int) : Prop := w.ownsRow base 5 1 v xs.length (xs.map (Value.int .u8))

theorem Try.info5 : (Try.prog.info? 5).map (fun i => (i.zero, i.size, i.bytes)) = some (some (.int .u8 0), 1, 1) := by kernel_rfl

theorem Row.of {w1 : World} {base : Nat} {v' : Value} {zs : List Int} {l : List Value} {n : Nat} (h : w1.ownsRow base 5 1 v' n l) (hn : n = zs.length) (hl : l = zs.map (Value.int .u8)) : Row w1 base v' zs := by
  subst hn; subst hl; exact h

theorem escB_take (s : ByteArray) (k : Nat) (h : k < s.size) : escB (s.data.toList.take (k + 1)) = escB (s.data.toList.take k) ++ esc1 s[k] := by
  have : s.data.toList.take (k + 1) = s.data.toList.take k ++ [s[k]] := by
    rw [List.take_succ_eq_append_getElem (by simpa using h)]; rfl
  rw [this, escB_append]
  simp [escB]

theorem esc_zero (s : ByteArray) (k : Nat) (h : k < s.size) (hz : ((s[k].toNat : Int) == 0) = true) : esc1 s[k] = [0, 255] := by
  have : s[k] = 0 := by
    apply UInt8.toNat_inj.mp
    have : (s[k].toNat : Int) = 0 := by simpa using hz
    simpa using this
  simp [esc1, this]
theorem esc_not (s : ByteArray) (k : Nat) (h : k < s.size) (hz : ((s[k].toNat : Int) == 0) = false) : esc1 s[k] = [(s[k].toNat : Int)] := by
  have : ¬ s[k] = 0 := by
    intro e
    rw [e] at hz
    simp at hz
  simp [esc1, this]

theorem escTake_length (s : ByteArray) (k : Nat) (h : k ≤ s.size) : (escB (s.data.toList.take k)).length ≤ 2 * s.size := by
  have h1 := escB_length (s.data.toList.take k)
  have h2 : (s.data.toList.take k).length ≤ k := List.length_take_le _ _
  omega

theorem two_new {W : World} (b : Nat) (hb : b = W.heap.size) (x y : Value) (t : TypeId) : ∀ j u, [x, y][j]? = some u → (W.alloc (.cells #[x, y] t)).cell? ((⟨b, 0, none⟩ : Addr).add j) = some u := by
  intro j u hu
  have hadd : (⟨b, 0, none⟩ : Addr).add j = ⟨b, j, none⟩ := by unfold Addr.add; split <;> simp_all
  rw [hadd, World.cell?_alloc_at _ _ _ _ hb]
  simpa using hu
theorem one_new {W : World} (b : Nat) (hb : b = W.heap.size) (x : Value) (t : TypeId) : ∀ j u, [x][j]? = some u → (W.alloc (.cells #[x] t)).cell? ((⟨b, 0, none⟩ : Addr).add j) = some u := by
  intro j u hu
  have hadd : (⟨b, 0, none⟩ : Addr).add j = ⟨b, j, none⟩ := by unfold Addr.add; split <;> simp_all
  rw [hadd, World.cell?_alloc_at _ _ _ _ hb]
  simpa using hu
theorem ints_one (l : List Int) : ∀ u ∈ l.map (Value.int .u8), u.oneCell' = true := by
  intro u hu
  obtain ⟨x, _, rfl⟩ := List.mem_map.1 hu
  rfl

theorem below_step {base : Nat} {w wr w1 : World} {v : Value} {xs : List Value} {n : Nat} {o : Obj} (hb : base ≤ w.heap.size) (hnx : Below base w wr) (hown : wr.ownsRow base 5 1 v n xs)
    (hg : (wr.alloc o).grownBy w1 v.ownBlock) : Below base w w1 :=
  Below.grown (hnx.alloc (by have := hnx.size; omega) o) hg (by have := hnx.size; simp; omega) (fun k hk => (hown.lt k hk).1)

set_option maxHeartbeats 400000 in
theorem appStr_any (base : Nat) (v : Value) (xs : List Int) (s : ByteArray) (w : World) (hs : s.size ≤ 131072) (hxs : xs.length ≤ 1099511627776) (hb : base ≤ w.heap.size) (hown0 : Row w base v xs) :
    Calls Try.prog 9 #[v, .string s] w fun e w' => ∃ v', e = .returned v' ∧ Row w' base v' (xs ++ encS s.data.toList) ∧ Below base w w' := by
  obtain ⟨i0, hi, hz0, hz1, hz2⟩ := info_parts Try.info5
  go_enter Try.func9, Try.ntmps9
  go_wp2
  go_loopw [0, 5] (fun v i wr => ∃ k : Nat, k ≤ s.size ∧ i = .int .i64 k ∧ Row wr base v (xs ++ escB (s.data.toList.take k)) ∧ Below base w wr) (fun _ i _ => s.size - (intOf i).toNat)
  case atStart => exact ⟨0, Nat.zero_le _, rfl, by simpa [escB] using hown0, Below.refl _ _⟩
  case round =>
    obtain ⟨k, hk, rfl, hown, hnx⟩ := hrel
    have HL : Hid ((xs ++ escB (s.data.toList.take k)).length ≤ 1099512000000) := by
      have := escTake_length s k hk
      show _ ≤ _
      rw [List.length_append]; omega
    clear hown0
    have hsz := hnx.size
    by_cases hlt : k < s.size
    · by_cases hz : ((s[k].toNat : Int) == 0) = true
      · have HE : Hid (escB (s.data.toList.take (k + 1)) = escB (s.data.toList.take k) ++ [0, 255]) := by
          show _ = _
          rw [escB_take s k hlt, esc_zero s k hlt hz]
        go_wp2_with (at_builtin; refine wpList_append_own _ rfl (.tmp 18) (.tmp 19) 23 rfl base 5 i0 (.int .u8 0) 1 1 Try.underlying23 hi hz0 hz1 hz2 rfl (by decide) _ _ _ rfl (World.ownsRow.alloc hown _) ⟨wr.heap.size, 0, none⟩ 2 2 [.int .u8 0, .int .u8 255] rfl rfl (two_new _ rfl _ _ _) (ints_one [0, 255]) ?c3 ?c4 ?c5 ?_)
        case c3 => have := HL.out; unfold maxLen; omega
        case c4 => have := HL.out; omega
        case c5 => simp; omega
        intro v' w1 hown' hgrow _
        have R : Row w1 base v' (xs ++ escB (s.data.toList.take (k + 1))) := by
          rw [HE.out]
          exact Row.of hown' (by simp [Nat.add_assoc]) (by simp)
        have B1 : Below base w w1 := below_step hb hnx hown hgrow
        clear hown' hgrow hown
        go_wp2
        go_roundw
        case rel => exact ⟨k + 1, by omega, by go_num, R, B1⟩
        case measure => simp [intOf]; omega
      · have hz' : ((s[k].toNat : Int) == 0) = false := by simpa using hz
        clear hz
        have HE : Hid (escB (s.data.toList.take (k + 1)) = escB (s.data.toList.take k) ++ [(s[k].toNat : Int)]) := by
          show _ = _
          rw [escB_take s k hlt, esc_not s k hlt hz']
        go_wp2_with (at_builtin; refine wpList_append_own _ rfl (.tmp 21) (.tmp 23) 23 rfl base 5 i0 (.int .u8 0) 1 1 Try.underlying23 hi hz0 hz1 hz2 rfl (by decide) _ _ _ rfl (World.ownsRow.alloc hown _) ⟨wr.heap.size, 0, none⟩ 1 1 [.int .u8 (s[k].toNat : Int)] rfl rfl (one_new _ rfl _ _) (ints_one [(s[k].toNat : Int)]) ?c3 ?c4 ?c5 ?_)
        case c3 => have := HL.out; unfold maxLen; omega
        case c4 => have := HL.out; omega
        case c5 => simp; omega
        intro v' w1 hown' hgrow _
        have R : Row w1 base v' (xs ++ escB (s.data.toList.take (k + 1))) := by
          rw [HE.out]
          exact Row.of hown' (by simp [Nat.add_assoc]) (by simp)
        have B1 : Below base w w1 := below_step hb hnx hown hgrow
        clear hown' hgrow hown
        go_wp2
        go_roundw
        case rel => exact ⟨k + 1, by omega, by go_num, R, B1⟩
        case measure => simp [intOf]; omega
    · have HE : Hid (escB (s.data.toList.take k) = escB s.data.toList) := by
        show _ = _
        rw [List.take_of_length_le (by simp; omega)]
      go_wp2_with (at_builtin; refine wpList_append_own _ rfl (.tmp 25) (.tmp 26) 23 rfl base 5 i0 (.int .u8 0) 1 1 Try.underlying23 hi hz0 hz1 hz2 rfl (by decide) _ _ _ rfl (World.ownsRow.alloc hown _) ⟨wr.heap.size, 0, none⟩ 2 2 [.int .u8 0, .int .u8 1] rfl rfl (two_new _ rfl _ _ _) (ints_one [0, 1]) ?c3 ?c4 ?c5 ?_)
      case c3 => have := HL.out; unfold maxLen; omega
      case c4 => have := HL.out; omega
      case c5 => simp; omega
      intro v' w1 hown' hgrow _
      have R : Row w1 base v' (xs ++ encS s.data.toList) := by
        unfold encS
        rw [← HE.out]
        exact Row.of hown' (by simp [Nat.add_assoc]) (by simp)
      have B1 : Below base w w1 := below_step hb hnx hown hgrow
      clear hown' hgrow hown
      go_wp2
      go_ret
      exact ⟨_, rfl, R, B1⟩

theorem xor_low (b : Nat) (h : b < 2 ^ 63) : b ^^^ 2 ^ 63 = 2 ^ 63 + b := by
  apply Nat.eq_of_testBit_eq
  intro i
  rw [Nat.testBit_xor, Nat.testBit_two_pow]
  by_cases h1 : i = 63
  · subst h1
    rw [Nat.testBit_two_pow_add_eq, Nat.testBit_lt_two_pow h]
    rfl
  · have h1' : ¬ 63 = i := fun e => h1 e.symm
    by_cases h2 : i < 63
    · rw [Nat.testBit_two_pow_add_gt h2]; simp [h1']
    · have h3 : 64 ≤ i := by omega
      have hp : 2 ^ 64 ≤ 2 ^ i := Nat.pow_le_pow_right (by decide) h3
      rw [Nat.testBit_lt_two_pow (Nat.lt_of_lt_of_le h (by omega)), Nat.testBit_lt_two_pow (x := 2 ^ 63 + b) (by omega)]
      simp [h1']
theorem xor_top (a : Nat) (h : a < 18446744073709551616) : a ^^^ 9223372036854775808 = (a + 9223372036854775808) % 18446744073709551616 := by
  have e : (9223372036854775808 : Nat) = 2 ^ 63 := by decide
  by_cases h1 : a < 9223372036854775808
  · have := xor_low a (by rw [← e]; exact h1)
    rw [← e] at this
    rw [this]; omega
  · have := xor_low (a - 9223372036854775808) (by rw [← e]; omega)
    rw [← e] at this
    have h2 : a = (a - 9223372036854775808) ^^^ 9223372036854775808 := by rw [this]; omega
    have h3 : a ^^^ 9223372036854775808 = a - 9223372036854775808 := by
      generalize hd : a - 9223372036854775808 = d at *
      rw [h2, Nat.xor_assoc, Nat.xor_self, Nat.xor_zero]
    rw [h3]; omega

theorem xor_flip (x : Int) : bits .xor .u64 (IntKind.u64.wrap x) 9223372036854775808 = flip63 x := by
  rw [IntKind.wrap_u64]
  obtain ⟨a, ha⟩ : ∃ a : Nat, x % 18446744073709551616 = (a : Int) := ⟨(x % 18446744073709551616).toNat, by omega⟩
  have hlt : a < 18446744073709551616 := by omega
  have h := bits_xor_u64_nat a 9223372036854775808 hlt (by omega)
  rw [xor_top a hlt] at h
  rw [ha]
  refine Eq.trans h ?_
  unfold flip63
  omega

theorem be8_take (u : Int) (k : Nat) (h : k < 8) : (be 8 u).take (k + 1) = (be 8 u).take k ++ [u / 2 ^ (56 - 8 * k) % 256] := by
  match k, h with
  | 0, _ => rfl
  | 1, _ => rfl
  | 2, _ => rfl
  | 3, _ => rfl
  | 4, _ => rfl
  | 5, _ => rfl
  | 6, _ => rfl
  | 7, _ => rfl

set_option maxHeartbeats 400000 in
theorem appInt_any (base : Nat) (v : Value) (xs : List Int) (x : Int) (w : World) (hxs : xs.length ≤ 1099511627776) (hb : base ≤ w.heap.size) (hown0 : Row w base v xs) :
    Calls Try.prog 10 #[v, .int .i64 x] w fun e w' => ∃ v', e = .returned v' ∧ Row w' base v' (xs ++ be 8 (flip63 x)) ∧ Below base w w' := by
  obtain ⟨i0, hi, hz0, hz1, hz2⟩ := info_parts Try.info5
  have HX := xor_flip x
  go_enter Try.func10, Try.ntmps10
  go_wp2
  clear HX
  generalize hu : flip63 x = u
  have HU : Hid (flip63 x = u) := hu
  clear hu
  go_loopw [0, 6] (fun v i wr => ∃ k : Nat, k ≤ 8 ∧ i = .int .i64 (56 - 8 * (k : Int)) ∧ Row wr base v (xs ++ (be 8 u).take k) ∧ Below base w wr) (fun _ i _ => (64 + intOf i).toNat)
  case atStart => exact ⟨0, by omega, rfl, by simpa using hown0, Below.refl _ _⟩
  case round =>
    obtain ⟨k, hk, rfl, hown, hnx⟩ := hrel
    have HL : Hid ((xs ++ (be 8 u).take k).length ≤ 1099512000000) := by
      have : ((be 8 u).take k).length ≤ k := List.length_take_le _ _
      show _ ≤ _
      rw [List.length_append]; omega
    clear hown0
    have hsz := hnx.size
    by_cases hlt : k < 8
    · have HE : Hid ((be 8 u).take (k + 1) = (be 8 u).take k ++ [u / 2 ^ (56 - 8 * k) % 256]) := be8_take u k hlt
      have h0 : (0 : Int) ≤ 56 - 8 * (k : Int) := by omega
      go_wp2_with (at_builtin; refine wpList_append_own _ rfl (.tmp 14) (.tmp 20) 23 rfl base 5 i0 (.int .u8 0) 1 1 Try.underlying23 hi hz0 hz1 hz2 rfl (by decide) _ _ _ rfl (World.ownsRow.alloc hown _) ⟨wr.heap.size, 0, none⟩ 1 1 [.int .u8 (u / 2 ^ (56 - 8 * k) % 256)] rfl rfl (one_new _ rfl _ _) (ints_one [u / 2 ^ (56 - 8 * k) % 256]) ?c3 ?c4 ?c5 ?_)
      case c3 => have := HL.out; unfold maxLen; omega
      case c4 => have := HL.out; omega
      case c5 => simp; omega
      intro v' w1 hown' hgrow _
      have R : Row w1 base v' (xs ++ (be 8 u).take (k + 1)) := by
        rw [HE.out]
        exact Row.of hown' (by simp [Nat.add_assoc]) (by simp)
      have B1 : Below base w w1 := below_step hb hnx hown hgrow
      clear hown' hgrow hown
      go_wp2
      go_roundw
      case rel => exact ⟨k + 1, by omega, by go_num, R, B1⟩
      case measure => simp [intOf]; omega
    · have HE : Hid ((be 8 u).take k = be 8 u) := by
        show _ = _
        rw [List.take_of_length_le (by rw [be_length]; omega)]
      obtain rfl : k = 8 := by omega
      go_wp2
      go_ret
      refine ⟨_, rfl, ?_, hnx⟩
      rw [HE.out, ← HU.out] at hown
      exact hown

end Go.Proofs.Qxb6617472a
