/-
  THE WALKS of time.Time's functions, at times without a monotonic reading: nsec, sec, addSec, Add (at the zero time), Equal, Sub (of the zero time).
-/
import Derived.Test.Qxb6618648aRows
import Derived.Test.Qxb6618648aBits
import Derived.WalkKit
import Derived.WalkSpells
import Derived.WalkLawsBesides
namespace Go.Proofs.Qxb6618648a
open Go.RowKit

theorem ret_int {k : IntKind} {a b : Int} (h : a = b) : Ending.returned (.int k a) = .returned (.int k b) := by rw [h]

/-- The time that lies d nanoseconds past the zero time. -/
def timeOf (d : Int) : Value := .agg #[.int .u64 (d % 1000000000), .int .i64 (d / 1000000000), .pointer none]

theorem bcell {W w1 : World} (hb : Below W.heap.size W w1) : (∀ b o, b < W.heap.size → w1.cell? ⟨b, o, none⟩ = W.cell? ⟨b, o, none⟩) ∧ (∀ b o, b < W.heap.size → w1.frozen? ⟨b, o, none⟩ = W.frozen? ⟨b, o, none⟩) :=
  ⟨fun b o h => hb.cell (p := ⟨b, o, none⟩) h, fun b o h => hb.frozen (p := ⟨b, o, none⟩) h⟩

set_option maxHeartbeats 400000 in
theorem nsec_any (b o : Nat) (a : Int) (w : World) (h0 : 0 ≤ a) (h1 : a < 1000000000) (hc : w.cell? ⟨b, o, none⟩ = some (.int .u64 a)) :
    Calls Try.prog 27 #[.pointer (some ⟨b, o, none⟩)] w fun e w' => e = .returned (.int .i32 a) ∧ w = w' := by
  have hm := and_mask a h0 (by omega)
  go_enter Try.func27, Try.ntmps27
  go_wp2
  go_ret
  exact ⟨rfl, rfl⟩

set_option maxHeartbeats 400000 in
theorem sec_any (b o : Nat) (a x : Int) (w : World) (h0 : 0 ≤ a) (h1 : a < 1000000000) (hc : w.cell? ⟨b, o, none⟩ = some (.int .u64 a)) (hx : w.cell? ⟨b, o + 1, none⟩ = some (.int .i64 x)) :
    Calls Try.prog 31 #[.pointer (some ⟨b, o, none⟩)] w fun e w' => e = .returned (.int .i64 x) ∧ w = w' := by
  have hm := and_top a h0 (by omega)
  go_enter Try.func31, Try.ntmps31
  go_wp2
  go_ret
  exact ⟨rfl, rfl⟩

set_option maxHeartbeats 400000 in
theorem addSec_any (b o : Nat) (a q : Int) (w : World) (h0 : 0 ≤ a) (h1 : a < 1000000000) (hq : -10000000000 ≤ q) (hq' : q ≤ 10000000000) (hc : w.cell? ⟨b, o, none⟩ = some (.int .u64 a)) (hx : w.cell? ⟨b, o + 1, none⟩ = some (.int .i64 0)) (hf : w.frozen? ⟨b, o + 1, none⟩ = false) :
    Calls Try.prog 28 #[.pointer (some ⟨b, o, none⟩), .int .i64 q] w fun e w' => e = .returned (.tuple #[]) ∧ w' = w.setCell ⟨b, o + 1, none⟩ (.int .i64 q) := by
  have hm := and_top a h0 (by omega)
  go_enter Try.func28, Try.ntmps28
  go_wp2
  go_end0
  exact ⟨rfl, rfl⟩

theorem quot_rem (d : Int) : 1000000000 * d.tdiv 1000000000 + d.tmod 1000000000 = d ∧ -1000000000 < d.tmod 1000000000 ∧ d.tmod 1000000000 < 1000000000 ∧ (0 ≤ d → 0 ≤ d.tmod 1000000000) ∧ (d ≤ 0 → d.tmod 1000000000 ≤ 0) := by
  refine ⟨Int.mul_tdiv_add_tmod d 1000000000, ?_, Int.tmod_lt_of_pos d (by decide), fun h => Int.tmod_nonneg _ h, fun h => ?_⟩
  · have := Int.tmod_lt_of_pos (-d) (show (0 : Int) < 1000000000 by decide)
    rw [Int.neg_tmod] at this
    omega
  · have := Int.tmod_nonneg 1000000000 (show 0 ≤ -d by omega)
    rw [Int.neg_tmod] at this
    omega

set_option maxHeartbeats 400000 in
theorem add_any (d : Int) (w : World) (hd : -9223372036854775808 ≤ d ∧ d ≤ 9223372036854775807) :
    Calls Try.prog 22 #[.agg #[.int .u64 0, .int .i64 0, .pointer none], .int .i64 d] w fun e w' => e = .returned (timeOf d) ∧ Below w.heap.size w w' := by
  have hz := andNot_zero
  have hqr := quot_rem d
  obtain ⟨q, hq⟩ : ∃ q, d.tdiv 1000000000 = q := ⟨_, rfl⟩
  obtain ⟨r, hr⟩ : ∃ r, d.tmod 1000000000 = r := ⟨_, rfl⟩
  rw [hq, hr] at hqr
  obtain ⟨e0, r0, r1, s0, s1⟩ := hqr
  have q0 : -9223372037 ≤ q := by omega
  have q1 : q ≤ 9223372036 := by omega
  by_cases hn : r < 0
  · have HT : Hid (d % 1000000000 = r + 1000000000 ∧ d / 1000000000 = q - 1) := by show _ ∧ _; omega
    have HE : Hid (1000000000 * q + r = d) := e0
    have ho := zero_or (r + 1000000000) (by omega) (by omega)
    have ht := and_top (r + 1000000000) (by omega) (by omega)
    clear e0 s0 s1
    go_enter Try.func22, Try.ntmps22
    go_wp2_with fail
    refine (nsec_any _ _ 0 _ (by omega) (by omega) (by simp)).mono ?_
    rintro e x ⟨rfl, rfl⟩
    go_wp2_with fail
    refine (addSec_any _ _ (r + 1000000000) (q - 1) _ (by omega) (by omega) (by omega) (by omega) (by simp) (by simp) (by simp)).mono ?_
    rintro e x ⟨rfl, rfl⟩
    go_wp2_with fail
    exact bodyPost_ret (v := .agg #[.int .u64 (r + 1000000000), .int .i64 (q - 1), .pointer none]) (by simp [results, Try.results22, go_sem]) rfl ⟨by unfold timeOf; rw [HT.out.1, HT.out.2], ((Below.refl _ _).alloc (Nat.le_refl _) _).alloc (by simp) _⟩
  · have HT : Hid (d % 1000000000 = r ∧ d / 1000000000 = q) := by show _ ∧ _; omega
    have HE : Hid (1000000000 * q + r = d) := e0
    have ho := zero_or r (by omega) (by omega)
    have ht := and_top r (by omega) (by omega)
    clear e0 s0 s1
    go_enter Try.func22, Try.ntmps22
    go_wp2_with fail
    refine (nsec_any _ _ 0 _ (by omega) (by omega) (by simp)).mono ?_
    rintro e x ⟨rfl, rfl⟩
    go_wp2_with fail
    refine (addSec_any _ _ r q _ (by omega) (by omega) (by omega) (by omega) (by simp) (by simp) (by simp)).mono ?_
    rintro e x ⟨rfl, rfl⟩
    go_wp2_with fail
    exact bodyPost_ret (v := .agg #[.int .u64 r, .int .i64 q, .pointer none]) (by simp [results, Try.results22, go_sem]) rfl ⟨by unfold timeOf; rw [HT.out.1, HT.out.2], ((Below.refl _ _).alloc (Nat.le_refl _) _).alloc (by simp) _⟩

set_option maxHeartbeats 400000 in
theorem equal_raw (a x : Int) (w : World) (h0 : 0 ≤ a) (h1 : a < 1000000000) :
    Calls Try.prog 32 #[.agg #[.int .u64 a, .int .i64 x, .pointer none], .agg #[.int .u64 a, .int .i64 x, .pointer none]] w fun e w' => e = .returned (.bool true) ∧ Below w.heap.size w w' := by
  have ht := and_top a h0 (by omega)
  have haa : bits .and .u64 a a = a := by
    obtain ⟨n, rfl⟩ : ∃ n : Nat, a = n := ⟨a.toNat, by omega⟩
    rw [bits_and_nat n n (by omega) (by omega), Nat.and_self]
  go_enter Try.func32, Try.ntmps32
  go_wp2_with fail
  refine (sec_any _ _ a x _ h0 h1 (by simp) (by simp)).mono ?_
  rintro e x ⟨rfl, rfl⟩
  go_wp2_with fail
  refine (sec_any _ _ a x _ h0 h1 (by simp) (by simp)).mono ?_
  rintro e x ⟨rfl, rfl⟩
  go_wp2_with fail
  refine (nsec_any _ _ a _ h0 h1 (by simp)).mono ?_
  rintro e x ⟨rfl, rfl⟩
  go_wp2_with fail
  refine (nsec_any _ _ a _ h0 h1 (by simp)).mono ?_
  rintro e x ⟨rfl, rfl⟩
  go_wp2
  go_ret
  exact ⟨rfl, ((Below.refl _ _).alloc (Nat.le_refl _) _).alloc (by simp) _⟩

theorem equal_any (d : Int) (w : World) : Calls Try.prog 32 #[timeOf d, timeOf d] w fun e w' => e = .returned (.bool true) ∧ Below w.heap.size w w' :=
  equal_raw _ _ w (by omega) (by omega)

end Go.Proofs.Qxb6618648a
