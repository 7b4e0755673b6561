/-
  A SLICE OF STEPS THAT CAME IN, opened: what its cells hold. No walk.
-/
import Derived.Test.Qxb6618648aRun
import Derived.Deep.Slices
import Derived.Deep.Strs
import Derived.OpenShut
namespace Go.Proofs.Qxb6618648a
open Go.RowKit Go.ChangeShapes Go.WideShapes Go.Deep

theorem inR_of {a : Int} (h : (Lit.int .i64 a).wf = true) : InR a := by
  have := bounds_i64 h
  unfold InR
  omega

theorem cells37 : Try.prog.cellsOf 37 = 3 := by kernel_rfl
theorem cells4 : Try.prog.cellsOf 4 = 1 := by kernel_rfl
theorem cells2 : Try.prog.cellsOf 2 = 1 := by kernel_rfl

section
variable {H : Type} {enc : TypeId × Value → H} {W : World} {base : Nat} {sp : Nat → Bool} {held : Bool}

theorem open_step {n : Nat} {a : Addr} {cs' : List Value} {x : DataW H × List MemPlace} (h1 : W.cells? base a 3 = some cs') (h2 : DataW.trod enc Try.prog W base sp held n 37 cs' = some x) :
    ∃ q : Step, W.cell? (a.add 0) = some (.bool q.1) ∧ W.cell? (a.add 1) = some (.int .i64 q.2.1) ∧ W.cell? (a.add 2) = some (.int .i64 q.2.2) ∧ InR q.2.1 ∧ InR q.2.2 := by
  obtain ⟨_, hlen, hcell⟩ := World.cells?_some h1
  obtain ⟨y0, y1, y2, m, _, _, g0, g1, g2⟩ := trod_struct3 Try.underlying37 h2
  match cs', hlen with
  | [v0, v1, v2], _ =>
    simp [cells4, cells2] at g0 g1 g2
    obtain ⟨b, hb, _⟩ := DataW.trod_bool Try.underlying4 g0
    obtain ⟨k, hk, _, wk⟩ := DataW.trod_int Try.underlying2 g1
    obtain ⟨t, ht, _, wt⟩ := DataW.trod_int Try.underlying2 g2
    simp at hb hk ht
    subst hb hk ht
    have e0 := hcell 0 (by omega)
    have e1 := hcell 1 (by omega)
    have e2 := hcell 2 (by omega)
    exact ⟨(b, k, t), by simpa using e0, by simpa using e1, by simpa using e2, inR_of wk, inR_of wt⟩

theorem open_steps {fuel len cap : Nat} {a : Option Addr} {x : DataW H × List MemPlace} (h : DataW.trod enc Try.prog W base sp held fuel 31 [.slice a len cap] = some x) :
    len ≤ maxLen ∧ ∃ S : List Step, ∀ bm, W.heap.size ≤ bm → StepsAt W bm a len S := by
  rcases open_slice Try.underlying31 h with ⟨hcs, _⟩ | ⟨ad, len', cap', m, n, D, Pl, hcs, _, hl, hm, hmm, _, hel⟩
  · simp at hcs
    obtain ⟨rfl, rfl, rfl⟩ := hcs
    exact ⟨by unfold maxLen; omega, [], fun bm _ => ⟨rfl, .inl rfl⟩⟩
  · simp at hcs
    obtain ⟨rfl, rfl, rfl⟩ := hcs
    refine ⟨by omega, ?_⟩
    have hlm : len ≤ m := by rw [hmm]; split <;> omega
    have each : ∀ i, i < len → ∃ q : Step, W.cell? (ad.add (i * 3)) = some (.bool q.1) ∧ W.cell? (ad.add (i * 3 + 1)) = some (.int .i64 q.2.1) ∧ W.cell? (ad.add (i * 3 + 2)) = some (.int .i64 q.2.2) ∧ InR q.2.1 ∧ InR q.2.2 := by
      intro i hi
      obtain ⟨cs', h1, h2⟩ := hel i (by omega)
      rw [cells37] at h1
      obtain ⟨q, e0, e1, e2, r1, r2⟩ := open_step h1 h2
      rw [add_add] at e0 e1 e2
      exact ⟨q, e0, e1, e2, r1, r2⟩
    obtain ⟨g, hg⟩ := choose_lt each
    refine ⟨(List.range len).map g, fun bm hbm => ?_⟩
    refine ⟨by simp, ?_⟩
    by_cases h0 : len = 0
    · exact .inl h0
    right
    obtain ⟨b, off, spot⟩ := ad
    have hspot : spot = none := by
      have := World.cell?_spot (hg 0 (by omega)).1
      simpa [Addr.add] using this
    subst hspot
    have hst : ∀ i, i < len → stepAt ((List.range len).map g) i = g i := by
      intro i hi
      simp [stepAt, hi]
    refine ⟨b, off, rfl, ?_, ?_⟩
    · have h1 := World.block_lt_of_cell? W _ (hg 0 (by omega)).1
      rw [add_plain] at h1
      simp only at h1
      omega
    · refine ⟨fun i hi => ?_, fun i hi => ?_, fun i hi => ?_, fun i hi => ?_, fun i hi => ?_⟩
      all_goals
        have hi' : i < len := by simpa using hi
        obtain ⟨e0, e1, e2, r1, r2⟩ := hg i hi'
        rw [add_plain] at e0 e1 e2
        rw [hst i hi']
      · exact e0
      · exact e1
      · exact e2
      · exact r1
      · exact r2
end

end Go.Proofs.Qxb6618648a
