/-
  THE WALK of zzRunSteps.
-/
import Derived.Test.Qxb6618648aPlace
namespace Go.Proofs.Qxb6618648a
open Go.RowKit

/-- One step of a script: put?, the key, the time. -/
abbrev Step := Bool × Int × Int
abbrev St := (Int → Option Int) × Nat

def step1 (x : St) (p : Step) : St :=
  if p.1 then (upd x.1 p.2.1 (some p.2.2), grow1 (x.1 p.2.1).isSome x.2) else (upd x.1 p.2.1 none, drop1 (x.1 p.2.1).isSome x.2)
def run (S : List Step) : St := S.foldl step1 (fun _ => none, 0)

def stepAt (S : List Step) (i : Nat) : Step := S.getD i (false, 0, 0)

theorem run_take (S : List Step) (k : Nat) (h : k < S.length) : run (S.take (k + 1)) = step1 (run (S.take k)) (stepAt S k) := by
  unfold run stepAt
  rw [List.take_succ_eq_append_getElem h, List.foldl_append]
  simp [h]

/-- What the script's slice leads to. -/
structure Cells (w : World) (b off : Nat) (S : List Step) : Prop where
  put : ∀ i, i < S.length → w.cell? ⟨b, off + i * 3, none⟩ = some (.bool (stepAt S i).1)
  seq : ∀ i, i < S.length → w.cell? ⟨b, off + i * 3 + 1, none⟩ = some (.int .i64 (stepAt S i).2.1)
  at_ : ∀ i, i < S.length → w.cell? ⟨b, off + i * 3 + 2, none⟩ = some (.int .i64 (stepAt S i).2.2)
  rk : ∀ i, i < S.length → InR (stepAt S i).2.1
  rv : ∀ i, i < S.length → InR (stepAt S i).2.2

theorem Cells.kept {w w' : World} {b off : Nat} {S : List Step} {row : Option Nat} (h : Cells w b off S) (hg : w.grownBy w' row) (hne : some b ≠ row) : Cells w' b off S where
  put := fun i hi => hg.cell (h.put i hi) hne
  seq := fun i hi => hg.cell (h.seq i hi) hne
  at_ := fun i hi => hg.cell (h.at_ i hi) hne
  rk := h.rk
  rv := h.rv

set_option maxHeartbeats 400000 in
theorem run_some (p bm b off len cap : Nat) (S : List Step) (w : World) (hl : S.length = len) (hl' : len ≤ 4096) (hS : Cells w b off S) (hb : b ≠ bm) (hp : Place w p bm 0 (fun _ => none) 0) :
    Calls Try.prog 15 #[.pointer (some ⟨p, 0, none⟩), .slice (some ⟨b, off, none⟩) len cap] w fun e w' => e = .returned (.tuple #[]) ∧ Place w' p bm len (run S).1 (run S).2 ∧ w.grownBy w' (some bm) := by
  have HL : Hid (S.length = len) := hl
  clear hl
  go_enter Try.func15, Try.ntmps15
  go_wp2
  go_loopw [4] (fun i wr => ∃ k : Nat, k ≤ len ∧ i = .int .i64 k ∧ Place wr p bm k (run (S.take k)).1 (run (S.take k)).2 ∧ w.grownBy wr (some bm)) (fun i _ => len - (intOf i).toNat)
  case atStart => exact ⟨0, Nat.zero_le _, rfl, by simpa [run] using hp, grown_refl _ _⟩
  case round =>
    obtain ⟨k, hk, rfl, hpk, hg⟩ := hrel
    clear hp
    by_cases hlt : k < len
    · have hSr := hS.kept hg (by simpa using hb)
      have hkl : k < S.length := by rw [HL.out]; exact hlt
      have c1 := hSr.put k hkl
      have c2 := hSr.seq k hkl
      have c3 := hSr.at_ k hkl
      have r1 := hSr.rk k hkl
      have r2 := hSr.rv k hkl
      have HR : Hid (run (S.take (k + 1)) = step1 (run (S.take k)) (stepAt S k)) := run_take S k hkl
      have b1 : (k : Int) < len := by omega
      clear hS hSr
      generalize run (S.take k) = st at *
      obtain ⟨f, s⟩ := st
      generalize stepAt S k = sp at *
      obtain ⟨pu, key, v⟩ := sp
      simp only at c1 c2 c3 r1 r2 hpk
      have HP : Hid (Place wr p bm k f s) := hpk
      clear hpk
      cases pu
      · go_wp2_with fail
        refine (settled_any p bm k s f key wr r1 HP.out).mono ?_
        rintro e x ⟨rfl, hx, hgx⟩
        clear c1 c2 c3
        have R : Place x p bm (k + 1) (run (S.take (k + 1))).1 (run (S.take (k + 1))).2 := by
          rw [HR.out]; exact hx.mono (by omega)
        clear hx
        go_wp2
        go_roundw
        case rel => exact ⟨k + 1, by omega, by go_num, R, grown_trans hg hgx⟩
        case measure => simp [intOf]; omega
      · go_wp2_with fail
        refine region_tail 11 (by kernel_rfl) (by kernel_rfl) ?_
        simp only [List.take_succ_cons, List.take_zero, List.drop_succ_cons, List.drop_zero]
        iterate 11 still_step
        refine wpStill_nil ?_
        go_wp2_with fail
        refine (due_any p bm k s f key v wr.drew r1 r2 (by omega) (HP.out.below (Below.refl _ _).drew)).mono ?_
        rintro e x ⟨rfl, hx, hgx⟩
        clear c1 c2 c3
        have R : Place x p bm (k + 1) (run (S.take (k + 1))).1 (run (S.take (k + 1))).2 := by
          rw [HR.out]; exact hx
        clear hx
        go_wp2
        go_roundw
        case rel => exact ⟨k + 1, by omega, by go_num, R, grown_trans hg (grown_drew hgx)⟩
        case measure => simp [intOf]; omega
    · obtain rfl : k = len := by omega
      rw [List.take_of_length_le (by rw [HL.out]; exact Nat.le_refl _)] at hpk
      have HP : Hid (Place wr p bm k (run S).1 (run S).2) := hpk
      clear hpk hS
      go_wp2
      go_end0
      exact ⟨rfl, HP.out, hg⟩

set_option maxHeartbeats 400000 in
theorem run_none (p bm cap : Nat) (a : Option Addr) (w : World) (hp : Place w p bm 0 (fun _ => none) 0) :
    Calls Try.prog 15 #[.pointer (some ⟨p, 0, none⟩), .slice a 0 cap] w fun e w' => e = .returned (.tuple #[]) ∧ Place w' p bm 0 (run []).1 (run []).2 ∧ w.grownBy w' (some bm) := by
  have HP : Hid (Place w p bm 0 (fun _ => none) 0) := hp
  clear hp
  go_enter Try.func15, Try.ntmps15
  go_wp2
  refine wp_loop_rounds 1 ?_
  rw [rounds_succ]
  go_wp2
  go_end0
  exact ⟨rfl, HP.out, grown_refl _ _⟩

/-- The script's slice, whatever its length. -/
def StepsAt (w : World) (bm : Nat) (a : Option Addr) (len : Nat) (S : List Step) : Prop :=
  S.length = len ∧ ((len = 0) ∨ ∃ b off, a = some ⟨b, off, none⟩ ∧ b ≠ bm ∧ Cells w b off S)

theorem run_any (p bm len cap : Nat) (a : Option Addr) (S : List Step) (w : World) (hl' : len ≤ 4096) (hS : StepsAt w bm a len S) (hp : Place w p bm 0 (fun _ => none) 0) :
    Calls Try.prog 15 #[.pointer (some ⟨p, 0, none⟩), .slice a len cap] w fun e w' => e = .returned (.tuple #[]) ∧ Place w' p bm len (run S).1 (run S).2 ∧ w.grownBy w' (some bm) := by
  obtain ⟨hl, h0 | ⟨b, off, rfl, hb, hc⟩⟩ := hS
  · subst h0
    obtain rfl : S = [] := List.length_eq_zero_iff.1 hl
    exact run_none p bm cap a w hp
  · exact run_some p bm b off len cap S w hl hl' hc hb hp

end Go.Proofs.Qxb6618648a
