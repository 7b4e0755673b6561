/-
  THE WALKS, second part: report.Compare.
-/
import Derived.Test.Qxb6617472aWk1
namespace Go.Proofs.Qxb6617472a
open Go.RowKit Plain

theorem region_tail {P : Program} {id : Nat} {Q : Exit → Act → World → Prop} {a : Act} {w : World} {l : List Oper} (n : Nat) (hm : P.follows .mixedOrders = true) (hB : Region.lexTailB .any l.toArray n = true)
    (h : wpStill P l.toArray w.drew (fun a' => wpList P l.toArray Q (l.drop n) a' w.drew) (l.take n) a) : (Code.region id l.toArray true).wp P Q a w :=
  wp_region_still_tail n hm hB h

theorem five_cells (W : World) (b : Nat) (hb : b = W.heap.size) (x1 x2 x3 x4 x5 : Int) :
    ∀ j, j < 5 → (W.alloc (.cells #[.int .i64 x1, .int .i64 x2, .int .i64 x3, .int .i64 x4, .int .i64 x5] 3)).cell? ⟨b, j, none⟩ = some (.int .i64 ([x1, x2, x3, x4, x5].getD j 0)) := by
  intro j hj
  rw [World.cell?_alloc_at _ _ _ _ hb]
  match j, hj with
  | 0, _ => rfl
  | 1, _ => rfl
  | 2, _ => rfl
  | 3, _ => rfl
  | 4, _ => rfl

theorem cmpF_first (p : List UInt8) (l c : Int) (r m p' : List UInt8) (l' c' : Int) (r' m' : List UInt8) :
    firstNZ [cmpS p p', cmpI l l', cmpI c c', cmpS r r', cmpS m m'] = cmpF p l c r m p' l' c' r' m' := by
  simp [firstNZ, cmpF, orI_zero]

set_option maxHeartbeats 400000 in
theorem compare_any (p r m p' r' m' : ByteArray) (l c u l' c' u' : Int) (w : World) :
    Calls Try.prog 7 #[.agg #[.string p, .int .i64 l, .int .i64 c, .int .i64 u, .string r, .string m], .agg #[.string p', .int .i64 l', .int .i64 c', .int .i64 u', .string r', .string m']] w
      fun e w' => e = .returned (.int .i64 (cmpF p.toList l c r.toList m.toList p'.toList l' c' r'.toList m'.toList)) ∧ Below w.heap.size w w' := by
  have c1 := cmpStr_any p p'
  have c2 := cmpInt_any l l'
  have c3 := cmpInt_any c c'
  have c4 := cmpStr_any r r'
  have c5 := cmpStr_any m m'
  have HF : Hid (firstNZ [cmpS p.toList p'.toList, cmpI l l', cmpI c c', cmpS r.toList r'.toList, cmpS m.toList m'.toList] = cmpF p.toList l c r.toList m.toList p'.toList l' c' r'.toList m'.toList) := cmpF_first _ _ _ _ _ _ _ _ _ _
  generalize cmpS p.toList p'.toList = x1 at *
  generalize cmpI l l' = x2 at *
  generalize cmpI c c' = x3 at *
  generalize cmpS r.toList r'.toList = x4 at *
  generalize cmpS m.toList m'.toList = x5 at *
  generalize cmpF p.toList l c r.toList m.toList p'.toList l' c' r'.toList m'.toList = y at *
  go_enter Try.func7, Try.ntmps7
  go_wp2
  refine region_tail 25 (by kernel_rfl) (by kernel_rfl) ?_
  simp only [List.take_succ_cons, List.take_zero, List.drop_succ_cons, List.drop_zero]
  iterate 4 still_step
  still_call (c1 _)
  iterate 4 still_step
  still_call (c2 _)
  iterate 4 still_step
  still_call (c3 _)
  iterate 4 still_step
  still_call (c4 _)
  iterate 4 still_step
  still_call (c5 _)
  refine wpStill_nil ?_
  clear c1 c2 c3 c4 c5
  go_wp2_with (go_at_call 11; refine (or_any _ 5 [x1, x2, x3, x4, x5] rfl (by omega) _ ?hc).mono ?_; rotate_left; rintro e w' ⟨rfl, rfl⟩)
  case hc => exact five_cells _ _ (by simp) _ _ _ _ _
  go_ret
  refine ⟨ret_int HF.out, ?_⟩
  exact ((((Below.refl _ _).alloc (Nat.le_refl _) _).alloc (by simp) _).alloc (by simp; omega) _).drew

end Go.Proofs.Qxb6617472a
