/-
  THE ASSOCIATION LIST, plainly: two lists of one length, no key twice; what each way of the loop does to it, held against the map. No Go in sight.
-/
import Derived.Test.Qxb6618648aRun
namespace Go.Proofs.Qxb6618648a

def findAt : List Int → Int → Nat → Int
  | [], _, _ => -1
  | x :: l, k, i => if x = k then (i : Int) else findAt l k (i + 1)

theorem g_cons (x : Int) (l : List Int) (i : Nat) : (x :: l).getD (i + 1) 0 = l.getD i 0 := by simp
theorem g_zero (x : Int) (l : List Int) : (x :: l).getD 0 0 = x := by simp

theorem find_spec : ∀ (ks : List Int) (k : Int) (i : Nat), ((∀ j, j < ks.length → ks.getD j 0 ≠ k) ∧ findAt ks k i = -1) ∨ (∃ j, j < ks.length ∧ ks.getD j 0 = k ∧ findAt ks k i = ((i + j : Nat) : Int))
  | [], k, i => .inl ⟨fun j hj => by simp at hj, rfl⟩
  | x :: l, k, i => by
    by_cases h : x = k
    · exact .inr ⟨0, by simp, by simpa using h, by simp [findAt, h]⟩
    · rcases find_spec l k (i + 1) with ⟨h1, h2⟩ | ⟨j, h1, h2, h3⟩
      · refine .inl ⟨fun j hj => ?_, by simp [findAt, h, h2]⟩
        cases j with
        | zero => rw [g_zero]; exact h
        | succ j => rw [g_cons]; exact h1 j (by simpa using hj)
      · refine .inr ⟨j + 1, by simpa using h1, by rw [g_cons]; exact h2, ?_⟩
        simp only [findAt, if_neg h, h3]
        omega

theorem find_drop (ks : List Int) (k : Int) (j : Nat) (h : j < ks.length) : findAt (ks.drop j) k j = if ks.getD j 0 = k then (j : Int) else findAt (ks.drop (j + 1)) k (j + 1) := by
  rw [List.drop_eq_getElem_cons h]
  simp [findAt, h]

theorem g_append (l : List Int) (x : Int) (i : Nat) : (l ++ [x]).getD i 0 = if i < l.length then l.getD i 0 else if i = l.length then x else 0 := by
  by_cases h : i < l.length
  · simp [h, List.getElem?_append_left]
  · rw [if_neg h]
    by_cases h2 : i = l.length
    · subst h2; simp
    · rw [if_neg h2]
      have : (l ++ [x])[i]? = none := List.getElem?_eq_none (by simp; omega)
      simp [List.getD_eq_getElem?_getD, this]
theorem g_set (l : List Int) (x : Int) (j i : Nat) (hj : j < l.length) : (l.set j x).getD i 0 = if i = j then x else l.getD i 0 := by
  rw [List.getD_eq_getElem?_getD, List.getElem?_set]
  by_cases h : j = i
  · subst h; simp [hj]
  · rw [if_neg h, if_neg (fun e => h e.symm), List.getD_eq_getElem?_getD]
theorem g_take (l : List Int) (n i : Nat) (h : i < n) : (l.take n).getD i 0 = l.getD i 0 := by
  rw [List.getD_eq_getElem?_getD, List.getElem?_take, if_pos h, List.getD_eq_getElem?_getD]

/-- The association list (ks, vs) holds just what the map (f, s) holds. -/
structure Rel (ks vs : List Int) (f : Int → Option Int) (s : Nat) : Prop where
  len : vs.length = ks.length
  size : s = ks.length
  inj : ∀ i j, i < ks.length → j < ks.length → ks.getD i 0 = ks.getD j 0 → i = j
  hit : ∀ i, i < ks.length → f (ks.getD i 0) = some (vs.getD i 0)
  miss : ∀ k, (∀ i, i < ks.length → ks.getD i 0 ≠ k) → f k = none
  rk : ∀ i, i < ks.length → InR (ks.getD i 0)

theorem Rel.empty : Rel [] [] (fun _ => none) 0 := ⟨rfl, rfl, fun i j h => by simp at h, fun i h => by simp at h, fun _ _ => rfl, fun i h => by simp at h⟩

theorem Rel.add {ks vs : List Int} {f : Int → Option Int} {s : Nat} (h : Rel ks vs f s) (k v : Int) (hk : InR k) (hn : ∀ j, j < ks.length → ks.getD j 0 ≠ k) : Rel (ks ++ [k]) (vs ++ [v]) (upd f k (some v)) (grow1 (f k).isSome s) where
  len := by simp [h.len]
  size := by rw [h.miss k hn, h.size]; simp [grow1]
  inj := by
    intro i j hi hj e
    simp only [List.length_append, List.length_singleton] at hi hj
    rw [g_append, g_append] at e
    by_cases h1 : i < ks.length
    · by_cases h2 : j < ks.length
      · rw [if_pos h1, if_pos h2] at e; exact h.inj i j h1 h2 e
      · rw [if_pos h1, if_neg h2, if_pos (by omega)] at e; exact absurd e (hn i h1)
    · by_cases h2 : j < ks.length
      · rw [if_neg h1, if_pos h2, if_pos (by omega)] at e; exact absurd e.symm (hn j h2)
      · omega
  hit := by
    intro i hi
    simp only [List.length_append, List.length_singleton] at hi
    rw [g_append, g_append, h.len]
    by_cases h1 : i < ks.length
    · rw [if_pos h1, if_pos h1, upd_other _ _ _ _ (hn i h1)]; exact h.hit i h1
    · rw [if_neg h1, if_neg h1, if_pos (by omega), if_pos (by omega), upd_same]
  miss := by
    intro x hx
    have hxk : x ≠ k := by
      have := hx ks.length (by simp)
      rw [g_append, if_neg (Nat.lt_irrefl _), if_pos rfl] at this
      exact fun e => this e.symm
    rw [upd_other _ _ _ _ hxk]
    refine h.miss x (fun i hi => ?_)
    have := hx i (by simp; omega)
    rwa [g_append, if_pos hi] at this
  rk := by
    intro i hi
    simp only [List.length_append, List.length_singleton] at hi
    rw [g_append]
    by_cases h1 : i < ks.length
    · rw [if_pos h1]; exact h.rk i h1
    · rw [if_neg h1, if_pos (by omega)]; exact hk

theorem Rel.put {ks vs : List Int} {f : Int → Option Int} {s : Nat} (h : Rel ks vs f s) (k v : Int) (j : Nat) (hj : j < ks.length) (hk : ks.getD j 0 = k) : Rel ks (vs.set j v) (upd f k (some v)) (grow1 (f k).isSome s) where
  len := by simp [h.len]
  size := by
    have := h.hit j hj
    rw [hk] at this
    rw [this]; exact h.size
  inj := h.inj
  hit := by
    intro i hi
    rw [g_set _ _ _ _ (by rw [h.len]; exact hj)]
    by_cases e : i = j
    · subst e; rw [if_pos rfl, hk, upd_same]
    · rw [if_neg e, upd_other _ _ _ _ (fun e2 => e (h.inj i j hi hj (e2.trans hk.symm)))]
      exact h.hit i hi
  miss := by
    intro x hx
    rw [upd_other _ _ _ _ (fun e => hx j hj (hk.trans e.symm))]
    exact h.miss x hx
  rk := h.rk

theorem Rel.keep {ks vs : List Int} {f : Int → Option Int} {s : Nat} (h : Rel ks vs f s) (k : Int) (hn : ∀ j, j < ks.length → ks.getD j 0 ≠ k) : Rel ks vs (upd f k none) (drop1 (f k).isSome s) where
  len := h.len
  size := by rw [h.miss k hn]; exact h.size
  inj := h.inj
  hit := fun i hi => by rw [upd_other _ _ _ _ (hn i hi)]; exact h.hit i hi
  miss := by
    intro x hx
    by_cases e : x = k
    · subst e; exact upd_same _ _ _
    · rw [upd_other _ _ _ _ e]; exact h.miss x hx
  rk := h.rk

/-- The last key and value go to place j; the lists lose their last places. -/
def cutAt (l : List Int) (j m : Nat) : List Int := (l.set j (l.getD m 0)).take m

theorem cutAt_length (l : List Int) (j m : Nat) (h : l.length = m + 1) : (cutAt l j m).length = m := by simp [cutAt, h]
theorem g_cut (l : List Int) (j m i : Nat) (hj : j < l.length) (hi : i < m) : (cutAt l j m).getD i 0 = if i = j then l.getD m 0 else l.getD i 0 := by
  unfold cutAt
  rw [g_take _ _ _ hi, g_set _ _ _ _ hj]

theorem Rel.del {ks vs : List Int} {f : Int → Option Int} {s m : Nat} (h : Rel ks vs f s) (k : Int) (j : Nat) (hj : j < ks.length) (hk : ks.getD j 0 = k) (hm : ks.length = m + 1) :
    Rel (cutAt ks j m) (cutAt vs j m) (upd f k none) (drop1 (f k).isSome s) where
  len := by rw [cutAt_length _ _ _ hm, cutAt_length _ _ _ (h.len.trans hm)]
  size := by
    have := h.hit j hj
    rw [hk] at this
    rw [this, cutAt_length _ _ _ hm]
    have := h.size
    simp [drop1]; omega
  inj := by
    intro i i' hi hi' e
    rw [cutAt_length _ _ _ hm] at hi hi'
    rw [g_cut _ _ _ _ hj hi, g_cut _ _ _ _ hj hi'] at e
    by_cases e1 : i = j
    · by_cases e2 : i' = j
      · omega
      · rw [if_pos e1, if_neg e2] at e
        have := h.inj m i' (by omega) (by omega) e
        omega
    · by_cases e2 : i' = j
      · rw [if_neg e1, if_pos e2] at e
        have := h.inj i m (by omega) (by omega) e
        omega
      · rw [if_neg e1, if_neg e2] at e
        exact h.inj i i' (by omega) (by omega) e
  hit := by
    intro i hi
    rw [cutAt_length _ _ _ hm] at hi
    rw [g_cut _ _ _ _ hj hi, g_cut _ _ _ _ (by rw [h.len]; exact hj) hi]
    by_cases e1 : i = j
    · rw [if_pos e1, if_pos e1, upd_other _ _ _ _ (fun e => by have := h.inj m j (by omega) hj (e.trans hk.symm); omega)]
      exact h.hit m (by omega)
    · rw [if_neg e1, if_neg e1, upd_other _ _ _ _ (fun e => e1 (h.inj i j (by omega) hj (e.trans hk.symm)))]
      exact h.hit i (by omega)
  miss := by
    intro x hx
    by_cases e : x = k
    · subst e; exact upd_same _ _ _
    · rw [upd_other _ _ _ _ e]
      refine h.miss x (fun i hi hix => ?_)
      by_cases e1 : i = j
      · subst e1; exact e (hix.symm.trans hk)
      · by_cases e2 : i < m
        · have := hx i (by rw [cutAt_length _ _ _ hm]; exact e2)
          rw [g_cut _ _ _ _ hj e2, if_neg e1] at this
          exact this hix
        · have e3 : i = m := by omega
          subst e3
          have := hx j (by rw [cutAt_length _ _ _ hm]; omega)
          rw [g_cut _ _ _ _ hj (by omega), if_pos rfl] at this
          exact this hix
  rk := by
    intro i hi
    rw [cutAt_length _ _ _ hm] at hi
    rw [g_cut _ _ _ _ hj hi]
    by_cases e1 : i = j
    · rw [if_pos e1]; exact h.rk m (by omega)
    · rw [if_neg e1]; exact h.rk i (by omega)

end Go.Proofs.Qxb6618648a
