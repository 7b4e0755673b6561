/-
  THE PLAIN LAW of 'FnCompareAgreesWithOrderedKey': the escaped, terminated, big-endian key orders as the tuple orders. No Go in sight.
-/
namespace Go.Proofs.Qxb6617472a.Plain

/-- 'a, unless it is 0; else b'. -/
def orI (a b : Int) : Int := if a = 0 then b else a

def cmpB : List Int → List Int → Int
  | [], [] => 0
  | [], _ :: _ => -1
  | _ :: _, [] => 1
  | x :: xs, y :: ys => if x = y then cmpB xs ys else if x < y then -1 else 1

def cmpS : List UInt8 → List UInt8 → Int
  | [], [] => 0
  | [], _ :: _ => -1
  | _ :: _, [] => 1
  | x :: xs, y :: ys => if x = y then cmpS xs ys else if x < y then -1 else 1

def cmpI (u v : Int) : Int := if u < v then -1 else if v < u then 1 else 0

def esc1 (c : UInt8) : List Int := if c = 0 then [0, 255] else [(c.toNat : Int)]
def escB : List UInt8 → List Int
  | [] => []
  | c :: l => esc1 c ++ escB l
def encS (l : List UInt8) : List Int := escB l ++ [0, 1]

/-- The n low bytes of u, the greatest first. -/
def be : Nat → Int → List Int
  | 0, _ => []
  | n + 1, u => (u / 256 ^ n) % 256 :: be n u

theorem cmpB_self_append (p A B : List Int) : cmpB (p ++ A) (p ++ B) = cmpB A B := by
  induction p with
  | nil => rfl
  | cons x p ih => simp [cmpB, ih]

theorem toNat_ne {c : UInt8} (h : c ≠ 0) : (c.toNat : Int) ≠ 0 := by
  intro h'
  apply h
  apply UInt8.toNat_inj.mp
  have : c.toNat = 0 := by omega
  simpa using this

theorem encS_cmp (s t : List UInt8) (A B : List Int) : cmpB (encS s ++ A) (encS t ++ B) = orI (cmpS s t) (cmpB A B) := by
  induction s generalizing t with
  | nil =>
    cases t with
    | nil => simp [encS, escB, cmpB, cmpS, orI]
    | cons d t =>
      by_cases hd : d = 0
      · subst hd; simp [encS, escB, esc1, cmpB, cmpS, orI]
      · have h1 := toNat_ne hd
        have h2 : (0 : Int) < d.toNat := by omega
        simp [encS, escB, esc1, cmpB, cmpS, orI, hd]
        omega
  | cons c s ih =>
    cases t with
    | nil =>
      by_cases hd : c = 0
      · subst hd; simp [encS, escB, esc1, cmpB, cmpS, orI]
      · have h1 := toNat_ne hd
        have h2 : (0 : Int) < c.toNat := by omega
        simp [encS, escB, esc1, cmpB, cmpS, orI, hd]
        omega
    | cons d t =>
      by_cases hcd : c = d
      · subst hcd
        have e1 : encS (c :: s) ++ A = esc1 c ++ (encS s ++ A) := by simp [encS, escB]
        have e2 : encS (c :: t) ++ B = esc1 c ++ (encS t ++ B) := by simp [encS, escB]
        rw [e1, e2, cmpB_self_append, ih]
        simp [cmpS]
      · have hn : (c.toNat : Int) ≠ d.toNat := by
          intro h
          apply hcd
          apply UInt8.toNat_inj.mp
          omega
        have hlt : c < d ↔ (c.toNat : Int) < d.toNat := by
          rw [UInt8.lt_iff_toNat_lt]; omega
        have hR : orI (cmpS (c :: s) (d :: t)) (cmpB A B) = if (c.toNat : Int) < d.toNat then -1 else 1 := by
          simp only [cmpS, if_neg hcd, hlt, orI]
          split <;> simp
        rw [hR]
        by_cases hc : c = 0
        · subst hc
          have hd : d ≠ 0 := fun h => hcd h.symm
          have h1 := toNat_ne hd
          have h2 : (0 : Int) < d.toNat := by omega
          have h3 : ¬ (0 : Int) = d.toNat := by omega
          simp [encS, escB, esc1, cmpB, hd, h3]
        · by_cases hd : d = 0
          · subst hd
            have h1 := toNat_ne hc
            simp [encS, escB, esc1, cmpB, hc]
            intro h; omega
          · simp [encS, escB, esc1, cmpB, hc, hd]
            intro h; omega

theorem pow_pos' (n : Nat) : (0 : Int) < 256 ^ n := Int.pow_pos (by decide)

theorem mod_succ (n : Nat) (u : Int) : u % 256 ^ (n + 1) = ((u / 256 ^ n) % 256) * 256 ^ n + u % 256 ^ n := by
  have hp := pow_pos' n
  have e : (256 : Int) ^ (n + 1) = 256 ^ n * 256 := by rw [Int.pow_succ]
  rw [e]
  have h1 := Int.emod_add_mul_ediv u (256 ^ n)
  have h2 := Int.emod_add_mul_ediv (u / 256 ^ n) 256
  have h3 := Int.emod_nonneg u (Int.ne_of_gt hp)
  have h4 := Int.emod_lt_of_pos u hp
  have h5 := Int.emod_nonneg (u / 256 ^ n) (show (256 : Int) ≠ 0 by decide)
  have h6 := Int.emod_lt_of_pos (u / 256 ^ n) (show (0 : Int) < 256 by decide)
  have e3 : u = ((u / 256 ^ n % 256) * 256 ^ n + u % 256 ^ n) + (256 ^ n * 256) * (u / 256 ^ n / 256) := by
    generalize u / 256 ^ n / 256 = a at *
    generalize u / 256 ^ n % 256 = b at *
    generalize u % 256 ^ n = c at *
    generalize (256 : Int) ^ n = p at *
    rw [← h2] at h1
    rw [← h1]
    simp only [Int.mul_add, Int.mul_comm, Int.mul_left_comm, Int.add_assoc, Int.add_comm]
  have hlt : (u / 256 ^ n % 256) * 256 ^ n + u % 256 ^ n < 256 ^ n * 256 := by
    generalize u / 256 ^ n % 256 = b at *
    generalize u % 256 ^ n = c at *
    generalize (256 : Int) ^ n = p at *
    have : b * p ≤ 255 * p := Int.mul_le_mul_of_nonneg_right (by omega) (by omega)
    omega
  have hge : 0 ≤ (u / 256 ^ n % 256) * 256 ^ n + u % 256 ^ n := by
    have := Int.mul_nonneg h5 (Int.le_of_lt hp)
    omega
  generalize (u / 256 ^ n % 256) * 256 ^ n + u % 256 ^ n = r at *
  rw [e3, Int.add_mul_emod_self_left, Int.emod_eq_of_lt hge hlt]

theorem cmpI_lex (p a b c d : Int) (hp : 0 < p) (hc : 0 ≤ c) (hc' : c < p) (hd : 0 ≤ d) (hd' : d < p) :
    cmpI (a * p + c) (b * p + d) = if a = b then cmpI c d else if a < b then -1 else 1 := by
  by_cases h : a = b
  · subst h
    simp only [if_true, cmpI]
    by_cases h1 : c < d
    · rw [if_pos h1, if_pos (by omega)]
    · rw [if_neg h1, if_neg (by omega)]
      by_cases h2 : d < c
      · rw [if_pos h2, if_pos (by omega)]
      · rw [if_neg h2, if_neg (by omega)]
  · rw [if_neg h]
    by_cases h1 : a < b
    · rw [if_pos h1]
      have : (a + 1) * p ≤ b * p := Int.mul_le_mul_of_nonneg_right (by omega) (by omega)
      rw [Int.add_mul] at this
      unfold cmpI
      rw [if_pos (by omega)]
    · rw [if_neg h1]
      have : (b + 1) * p ≤ a * p := Int.mul_le_mul_of_nonneg_right (by omega) (by omega)
      rw [Int.add_mul] at this
      unfold cmpI
      rw [if_neg (by omega), if_pos (by omega)]

theorem be_cmp (n : Nat) (u v : Int) (A B : List Int) : cmpB (be n u ++ A) (be n v ++ B) = orI (cmpI (u % 256 ^ n) (v % 256 ^ n)) (cmpB A B) := by
  induction n with
  | zero => simp [be, cmpI, orI, Int.emod_one]
  | succ n ih =>
    have hp := pow_pos' n
    rw [mod_succ, mod_succ, cmpI_lex _ _ _ _ _ hp (Int.emod_nonneg u (Int.ne_of_gt hp)) (Int.emod_lt_of_pos u hp) (Int.emod_nonneg v (Int.ne_of_gt hp)) (Int.emod_lt_of_pos v hp)]
    simp only [be, List.cons_append, cmpB, ih]
    split
    · rfl
    · split <;> simp [orI]

/-- The number with its sign bit turned. -/
def flip63 (x : Int) : Int := (x + 9223372036854775808) % 18446744073709551616

theorem flip_cmp (x y : Int) (hx : -9223372036854775808 ≤ x ∧ x ≤ 9223372036854775807) (hy : -9223372036854775808 ≤ y ∧ y ≤ 9223372036854775807) (A B : List Int) :
    cmpB (be 8 (flip63 x) ++ A) (be 8 (flip63 y) ++ B) = orI (cmpI x y) (cmpB A B) := by
  rw [be_cmp]
  have e : (256 : Int) ^ 8 = 18446744073709551616 := by decide
  have h : cmpI (flip63 x % 256 ^ 8) (flip63 y % 256 ^ 8) = cmpI x y := by
    rw [e]
    have hx' : flip63 x % 18446744073709551616 = x + 9223372036854775808 := by unfold flip63; omega
    have hy' : flip63 y % 18446744073709551616 = y + 9223372036854775808 := by unfold flip63; omega
    rw [hx', hy']
    simp only [cmpI]
    by_cases h1 : x < y
    · rw [if_pos h1, if_pos (by omega)]
    · rw [if_neg h1, if_neg (by omega)]
      by_cases h2 : y < x
      · rw [if_pos h2, if_pos (by omega)]
      · rw [if_neg h2, if_neg (by omega)]
  rw [h]

def key (p : List UInt8) (l c : Int) (r m : List UInt8) : List Int :=
  (((encS p ++ be 8 (flip63 l)) ++ be 8 (flip63 c)) ++ encS r) ++ encS m

def cmpF (p : List UInt8) (l c : Int) (r m p' : List UInt8) (l' c' : Int) (r' m' : List UInt8) : Int :=
  orI (cmpS p p') (orI (cmpI l l') (orI (cmpI c c') (orI (cmpS r r') (cmpS m m'))))

theorem orI_zero (a : Int) : orI a 0 = a := by unfold orI; split <;> simp_all

theorem key_cmp (p : List UInt8) (l c : Int) (r m p' : List UInt8) (l' c' : Int) (r' m' : List UInt8)
    (hl : -9223372036854775808 ≤ l ∧ l ≤ 9223372036854775807) (hl' : -9223372036854775808 ≤ l' ∧ l' ≤ 9223372036854775807)
    (hc : -9223372036854775808 ≤ c ∧ c ≤ 9223372036854775807) (hc' : -9223372036854775808 ≤ c' ∧ c' ≤ 9223372036854775807) :
    cmpB (key p l c r m) (key p' l' c' r' m') = cmpF p l c r m p' l' c' r' m' := by
  have e : ∀ (p : List UInt8) (l c : Int) (r m : List UInt8), key p l c r m = encS p ++ (be 8 (flip63 l) ++ (be 8 (flip63 c) ++ (encS r ++ (encS m ++ [])))) := by
    intros; simp [key, List.append_assoc]
  rw [e, e, encS_cmp, flip_cmp _ _ hl hl', flip_cmp _ _ hc hc', encS_cmp, encS_cmp]
  simp [cmpF, cmpB, orI_zero]

theorem cmpS_neg (s t : List UInt8) : cmpS t s = -cmpS s t := by
  induction s generalizing t with
  | nil => cases t <;> simp [cmpS]
  | cons c s ih =>
    cases t with
    | nil => simp [cmpS]
    | cons d t =>
      simp only [cmpS]
      by_cases h : c = d
      · subst h; simp [ih]
      · have h' : ¬ d = c := fun e => h e.symm
        rw [if_neg h, if_neg h']
        have hn : c.toNat ≠ d.toNat := fun e => h (UInt8.toNat_inj.mp e)
        by_cases h1 : c < d
        · have h2 : ¬ d < c := by rw [UInt8.lt_iff_toNat_lt] at *; omega
          rw [if_pos h1, if_neg h2]; rfl
        · have h2 : d < c := by rw [UInt8.lt_iff_toNat_lt] at *; omega
          rw [if_neg h1, if_pos h2]

theorem cmpI_neg (u v : Int) : cmpI v u = -cmpI u v := by
  unfold cmpI
  by_cases h1 : u < v
  · rw [if_neg (by omega), if_pos h1, if_pos h1]; rfl
  · by_cases h2 : v < u
    · rw [if_pos h2, if_neg h1, if_pos h2]
    · rw [if_neg h2, if_neg h1, if_neg h1, if_neg h2]; rfl

theorem orI_neg (a b : Int) : orI (-a) (-b) = -orI a b := by
  unfold orI
  by_cases h : a = 0
  · rw [if_pos h, if_pos (by omega)]
  · rw [if_neg h, if_neg (by omega)]

theorem cmpF_neg (p : List UInt8) (l c : Int) (r m p' : List UInt8) (l' c' : Int) (r' m' : List UInt8) :
    cmpF p' l' c' r' m' p l c r m = -cmpF p l c r m p' l' c' r' m' := by
  unfold cmpF
  rw [cmpS_neg p p', cmpI_neg l l', cmpI_neg c c', cmpS_neg r r', cmpS_neg m m']
  simp only [orI_neg]

theorem cmpB_range (x y : List Int) : cmpB x y = -1 ∨ cmpB x y = 0 ∨ cmpB x y = 1 := by
  induction x generalizing y with
  | nil => cases y <;> simp [cmpB]
  | cons a x ih =>
    cases y with
    | nil => simp [cmpB]
    | cons b y =>
      simp only [cmpB]
      split
      · exact ih y
      · split <;> simp

def sgn (x : Int) : Int := if x < 0 then -1 else if 0 < x then 1 else 0
theorem sgn_of (x : Int) (h : x = -1 ∨ x = 0 ∨ x = 1) : sgn x = x := by
  rcases h with h | h | h <;> subst h <;> rfl

theorem escB_append (a b : List UInt8) : escB (a ++ b) = escB a ++ escB b := by
  induction a with
  | nil => rfl
  | cons c a ih => simp [escB, ih]

theorem escB_length (a : List UInt8) : (escB a).length ≤ 2 * a.length := by
  induction a with
  | nil => simp [escB]
  | cons c a ih => simp only [escB, esc1, List.length_append, List.length_cons]; split <;> simp <;> omega

theorem be_length (n : Nat) (u : Int) : (be n u).length = n := by
  induction n with
  | zero => rfl
  | succ n ih => simp [be, ih]

end Go.Proofs.Qxb6617472a.Plain
