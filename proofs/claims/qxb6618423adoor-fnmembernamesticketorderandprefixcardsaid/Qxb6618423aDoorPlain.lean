/-
  THE PLAIN LAW: what reading back a decimal numeral gives. No Go in sight.
-/
import Derived.Lib.ItoaMem
namespace Go.Proofs.Qxb6618423aDoor.Plain
open Go

/-- The number that a list of digits spells, the first digit ahead. -/
def val (l : List UInt8) : Int := l.foldl (fun v c => v * 10 + ((c.toNat : Int) - 48)) 0

theorem val_snoc (l : List UInt8) (c : UInt8) : val (l ++ [c]) = val l * 10 + ((c.toNat : Int) - 48) := by
  simp [val, List.foldl_append]

def Digits (l : List UInt8) : Prop := ∀ c ∈ l, 48 ≤ c.toNat ∧ c.toNat ≤ 57

theorem digit_toNat (d : Nat) (h : d < 10) : (UInt8.ofNat (48 + d)).toNat = 48 + d := by
  rw [UInt8.toNat_ofNat_of_lt']
  show 48 + d < 2 ^ 8
  omega

theorem decDigits_small {u : Nat} (h : u < 10) : Lib.decDigits u = [UInt8.ofNat (48 + u)] := by rw [Lib.decDigits, dif_pos h]
theorem decDigits_big {u : Nat} (h : ¬ u < 10) : Lib.decDigits u = Lib.decDigits (u / 10) ++ [UInt8.ofNat (48 + u % 10)] := by rw [Lib.decDigits, dif_neg h]

theorem decDigits_digits (u : Nat) : Digits (Lib.decDigits u) := by
  induction u using Nat.strongRecOn with
  | _ u ih =>
    intro c hc
    by_cases h : u < 10
    · rw [decDigits_small h] at hc
      simp only [List.mem_singleton] at hc
      subst hc
      rw [digit_toNat u h]; omega
    · rw [decDigits_big h, List.mem_append] at hc
      rcases hc with hc | hc
      · exact ih (u / 10) (by omega) c hc
      · simp only [List.mem_singleton] at hc
        subst hc
        rw [digit_toNat _ (by omega)]; omega

theorem val_decDigits (u : Nat) : val (Lib.decDigits u) = u := by
  induction u using Nat.strongRecOn with
  | _ u ih =>
    by_cases h : u < 10
    · rw [decDigits_small h]
      simp only [val, List.foldl_cons, List.foldl_nil, digit_toNat u h]
      omega
    · rw [decDigits_big h, val_snoc, ih (u / 10) (by omega), digit_toNat _ (by omega)]
      omega

theorem head_decDigits (u : Nat) (h1 : 1 ≤ u) : ∃ c l, Lib.decDigits u = c :: l ∧ c.toNat ≠ 48 := by
  induction u using Nat.strongRecOn with
  | _ u ih =>
    by_cases h : u < 10
    · exact ⟨_, [], decDigits_small h, by rw [digit_toNat u h]; omega⟩
    · obtain ⟨c, l, e, hc⟩ := ih (u / 10) (by omega) (by omega)
      exact ⟨c, l ++ [UInt8.ofNat (48 + u % 10)], by rw [decDigits_big h, e]; rfl, hc⟩

theorem nDigits_le5 (u : Nat) (h : u < 100000) : Lib.nDigits u ≤ 5 := by
  by_cases h1 : u < 10
  · rw [Lib.nDigits_small h1]; omega
  rw [Lib.nDigits_big h1]
  by_cases h2 : u / 10 < 10
  · rw [Lib.nDigits_small h2]; omega
  rw [Lib.nDigits_big h2]
  by_cases h3 : u / 10 / 10 < 10
  · rw [Lib.nDigits_small h3]; omega
  rw [Lib.nDigits_big h3]
  by_cases h4 : u / 10 / 10 / 10 < 10
  · rw [Lib.nDigits_small h4]; omega
  rw [Lib.nDigits_big h4, Lib.nDigits_small (by omega)]
  omega

theorem length_decDigits (u : Nat) (h : u < 100000) : 1 ≤ (Lib.decDigits u).length ∧ (Lib.decDigits u).length ≤ 5 := by
  rw [Lib.decDigits_length]
  exact ⟨Lib.nDigits_pos u, nDigits_le5 u h⟩

theorem val_bound : ∀ (n : Nat) (l : List UInt8), l.length = n → Digits l → 0 ≤ val l ∧ val l < ((10 ^ n : Nat) : Int)
  | 0, l, hn, _ => by
    have : l = [] := List.length_eq_zero_iff.1 hn
    subst this
    simp [val]
  | n + 1, l, hn, h => by
    rcases List.eq_nil_or_concat l with rfl | ⟨l', c, rfl⟩
    · simp at hn
    · simp only [List.concat_eq_append] at hn h ⊢
      have hl := val_bound n l' (by simpa using hn) (fun c' hc' => h c' (by simp [hc']))
      have hc := h c (by simp)
      rw [val_snoc, Nat.pow_succ]
      omega

theorem val_small (l : List UInt8) (h : Digits l) (hl : l.length ≤ 7) : 0 ≤ val l ∧ val l < 10000000 := by
  have hb := val_bound _ l rfl h
  have hp : 10 ^ l.length ≤ 10 ^ 7 := Nat.pow_le_pow_right (by decide) hl
  omega

/-- The name of the i-th member, counted from 0. -/
def name (i : Nat) : ByteArray := ⟨(109 :: Lib.decDigits (i + 1)).toArray⟩

end Go.Proofs.Qxb6618423aDoor.Plain
