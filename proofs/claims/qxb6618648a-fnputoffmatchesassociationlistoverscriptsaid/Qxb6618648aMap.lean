/-
  THE MAP OF TIMES, as a plain function: how an element reads; what the map's datum says of each key; what a store and a delete do to it. No walk.
-/
import Derived.Test.Qxb6618648aTime
import Derived.Maps.OwnSet
import Derived.Maps.OwnOps
namespace Go.Proofs.Qxb6618648a
open Go.RowKit

def InR (d : Int) : Prop := -9223372036854775808 ≤ d ∧ d ≤ 9223372036854775807

/-- HOW AN ELEMENT READS: a time without a monotonic reading and without a place: as its nanoseconds past the zero time. -/
def timeElem (v : Value) : Option (DataW Unit × List MemPlace) :=
  match v with
  | .agg xs =>
    match xs.toList with
    | [.int .u64 a, .int .i64 q, .pointer none] =>
      if 0 ≤ a ∧ a < 1000000000 ∧ -9223372036854775808 ≤ q * 1000000000 + a ∧ q * 1000000000 + a ≤ 9223372036854775807 then some (.lit (.int .i64 (q * 1000000000 + a)), []) else none
    | _ => none
  | _ => none

theorem timeElem_mk (d : Int) (hd : InR d) : timeElem (timeOf d) = some (.lit (.int .i64 d), []) := by
  unfold InR at hd
  have e : d / 1000000000 * 1000000000 + d % 1000000000 = d := by omega
  simp only [timeElem, timeOf]
  rw [if_pos (by rw [e]; omega), e]

theorem timeElem_inv {v : Value} {z : DataW Unit × List MemPlace} (h : timeElem v = some z) : ∃ d, InR d ∧ v = timeOf d ∧ z = (.lit (.int .i64 d), []) := by
  unfold timeElem at h
  split at h
  · rename_i xs
    split at h
    · rename_i a q hx
      split at h
      · rename_i hc
        refine ⟨q * 1000000000 + a, ⟨by omega, by omega⟩, ?_, (Option.some.inj h).symm⟩
        have e1 : (q * 1000000000 + a) % 1000000000 = a := by omega
        have e2 : (q * 1000000000 + a) / 1000000000 = q := by omega
        unfold timeOf
        rw [e1, e2]
        congr 1
        exact Array.toList_inj.1 (by rw [hx])
      · cases h
    · cases h
  · cases h

theorem law : Maps.Keyed Try.prog 2 := Maps.int_keyed Try.underlying2
theorem zeroT (w : World) : (zeroValue 48).run Try.prog w = .ok (timeOf 0) w := by kernel_rfl

theorem wf_of (k : Int) (h : InR k) : (Lit.int .i64 k).wf = true := by
  unfold InR at h
  exact WalkArith.wf_i64 (by omega)
theorem key_of (k : Int) (h : InR k) : keyOf Try.prog 2 (.int .i64 k) = some (.int .i64 k) := Maps.keyOf_int_mk Try.underlying2 (wf_of k h)

def upd (f : Int → Option Int) (k : Int) (v : Option Int) : Int → Option Int := fun x => if x = k then v else f x
theorem upd_same (f : Int → Option Int) (k : Int) (v : Option Int) : upd f k v k = v := by simp [upd]
theorem upd_other (f : Int → Option Int) (k x : Int) (v : Option Int) (h : x ≠ k) : upd f k v x = f x := by simp [upd, h]

/-- What the datum D says, key by key, and how many entries it has. -/
structure Abs (D : DataW Unit) (f : Int → Option Int) (s : Nat) : Prop where
  tidy : Maps.Tidy D
  size : Maps.size D = s
  has : ∀ k, Maps.has D (.int .i64 k) = (f k).isSome
  at_ : ∀ k, D.atKey (.int .i64 k) (.lit (.int .i64 0)) = .lit (.int .i64 ((f k).getD 0))

theorem key_ne {k x : Int} (h : x ≠ k) : (Lit.int .i64 x) ≠ (Lit.int .i64 k) := fun e => h (by injection e)

theorem Abs.empty : Abs (.map []) (fun _ => none) 0 := ⟨Maps.tidy_empty, rfl, fun _ => rfl, fun _ => rfl⟩

def grow1 (b : Bool) (s : Nat) : Nat := if b then s else s + 1
def drop1 (b : Bool) (s : Nat) : Nat := if b then s - 1 else s

theorem keyLit (k : Int) : Go.WideAt.IsKeyLit (.int .i64 k) := by simp [Go.WideAt.IsKeyLit]

theorem Abs.put {D : DataW Unit} {f : Int → Option Int} {s : Nat} (h : Abs D f s) (k v : Int) :
    Abs (D.put (.int .i64 k) (.lit (.int .i64 v))) (upd f k (some v)) (grow1 (f k).isSome s) where
  tidy := h.tidy.put (keyLit k) _
  size := by rw [Maps.size_put h.tidy, h.has k, h.size]; rfl
  has := fun x => by
    by_cases e : x = k
    · subst e; rw [Maps.has_put_same h.tidy.isMap (keyLit _), upd_same]; rfl
    · rw [Maps.has_put_other (key_ne e), upd_other _ _ _ _ e]; exact h.has x
  at_ := fun x => by
    by_cases e : x = k
    · subst e; rw [Maps.atKey_put_same h.tidy.isMap (keyLit _), upd_same]; rfl
    · rw [Maps.atKey_put_other (key_ne e), upd_other _ _ _ _ e]; exact h.at_ x

theorem Abs.del {D : DataW Unit} {f : Int → Option Int} {s : Nat} (h : Abs D f s) (k : Int) :
    Abs (D.del (.int .i64 k)) (upd f k none) (drop1 (f k).isSome s) where
  tidy := h.tidy.del _
  size := by
    have := Maps.size_del (k := .int .i64 k) h.tidy
    rw [h.has k, h.size] at this
    unfold drop1
    split
    · rename_i h1; rw [if_pos h1] at this; omega
    · rename_i h1; rw [if_neg h1] at this; omega
  has := fun x => by
    by_cases e : x = k
    · subst e; rw [Maps.has_del_same, upd_same]; rfl
    · rw [Maps.has_del_other (key_ne e), upd_other _ _ _ _ e]; exact h.has x
  at_ := fun x => by
    by_cases e : x = k
    · subst e; rw [Maps.atKey_del_same, upd_same]; rfl
    · rw [Maps.atKey_del_other (key_ne e), upd_other _ _ _ _ e]; exact h.at_ x

/-- THE PLACE IN MEMORY: the struct's block p leads to the map's block bm, which holds f, s entries, at most n. -/
structure Place (w : World) (p bm n : Nat) (f : Int → Option Int) (s : Nat) : Prop where
  cell : w.cell? ⟨p, 8, none⟩ = some (.map (some bm))
  own : ∃ D : DataW Unit, w.ownsMap Try.prog 2 timeElem bm n D ∧ Abs D f s

theorem Place.lt {w : World} {p bm n : Nat} {f : Int → Option Int} {s : Nat} (h : Place w p bm n f s) : p < w.heap.size ∧ bm < w.heap.size := by
  obtain ⟨D, ho, _⟩ := h.own
  exact ⟨World.block_lt_of_cell? w _ h.cell, ho.lt⟩

theorem Place.ne {w : World} {p bm n : Nat} {f : Int → Option Int} {s : Nat} (h : Place w p bm n f s) : p ≠ bm := by
  intro e
  obtain ⟨D, ⟨es, clock, hb, _⟩, _⟩ := h.own
  have hc := h.cell
  subst e
  simp [World.cell?, hb] at hc

theorem Place.kept {w w' : World} {p bm n : Nat} {f : Int → Option Int} {s : Nat} {row : Option Nat} (h : Place w p bm n f s) (hg : w.grownBy w' row) (h1 : some p ≠ row) (h2 : some bm ≠ row) : Place w' p bm n f s := by
  obtain ⟨D, ho, ha⟩ := h.own
  exact ⟨hg.cell h.cell h1, D, ho.kept hg h2, ha⟩

theorem grown_of_below {w w' : World} (h : Below w.heap.size w w') : w.grownBy w' none := ⟨h.os, h.tape, h.output, h.size, fun k hk _ => h.block k hk⟩

theorem Place.below {w w' : World} {p bm n : Nat} {f : Int → Option Int} {s : Nat} (h : Place w p bm n f s) (hb : Below w.heap.size w w') : Place w' p bm n f s :=
  h.kept (grown_of_below hb) (by simp) (by simp)

theorem Place.mono {w : World} {p bm n m : Nat} {f : Int → Option Int} {s : Nat} (h : Place w p bm n f s) (hm : n ≤ m) : Place w p bm m f s := by
  obtain ⟨D, ho, ha⟩ := h.own
  exact ⟨h.cell, D, ho.mono hm, ha⟩

theorem grown_trans {a b c : World} {row : Option Nat} (h : a.grownBy b row) (k : b.grownBy c row) : a.grownBy c row :=
  ⟨k.os.trans h.os, k.tape.trans h.tape, k.output.trans h.output, Nat.le_trans h.size k.size, fun i hi hne => (k.block i (Nat.lt_of_lt_of_le hi h.size) hne).trans (h.block i hi hne)⟩
theorem grown_but {a b : World} (h : a.grownBy b none) (row : Option Nat) : a.grownBy b row := ⟨h.os, h.tape, h.output, h.size, fun i hi _ => h.block i hi (by simp)⟩
theorem grown_refl (a : World) (row : Option Nat) : a.grownBy a row := ⟨rfl, rfl, rfl, Nat.le_refl _, fun _ _ _ => rfl⟩

end Go.Proofs.Qxb6618648a
