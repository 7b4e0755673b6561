/-
  THE LAW's WALK.
-/
import Derived.Test.Qxb6618423aDoorWk1
import Derived.Deep.QuietTactic
import Derived.BigQuiet
namespace Go.Proofs.Qxb6618423aDoor
open Go.RowKit Plain

theorem parse_name (k : Nat) (hk : k ≤ 70000) (w : World) :
    Calls Tryd.prog 5 #[.string (name k)] w fun e w' => e = .returned (.tuple #[.int .i64 ((k : Int) + 1), .bool true]) ∧ w = w' :=
  parse_any (name k) _ (good_name k hk) w

theorem cells_of {w : World} {B g n : Nat} (h : w.ownsRow B 9 1 (.slice (some ⟨g, 0, none⟩) n n) n (rowAt n n)) : ∀ j, j < n → w.cell? ⟨g, j, none⟩ = some (.string (name j)) := by
  intro j hj
  rw [h.cellAt j (by omega), rowAt_cell n n j hj, if_pos hj]

set_option maxHeartbeats 800000 in
theorem law_in (n m : Nat) (hn : n ≤ 65536) (hm : m ≤ 65536) (w : World) (htab : Lib.TabIs Tryd.prog w Tryd.powName .u64 Lib.pow10Tab) :
    Calls Tryd.prog 3 #[.int .i64 (n : Int), .int .i64 (m : Int)] w fun e w' => e = .returned (.bool true) ∧ Below w.heap.size w w' := by
  have C1 := zznames_any n hn w htab
  have C2 : ∀ x, Below w.heap.size w x → Calls Tryd.prog 4 #[.int .i64 (m : Int)] x fun e w' => e = .returned (.slice (some ⟨x.heap.size, 0, none⟩) m m) ∧ w'.ownsRow x.heap.size 9 1 (.slice (some ⟨x.heap.size, 0, none⟩) m m) m (rowAt m m) ∧ Below x.heap.size x w' :=
    fun x hx => zznames_any m hm x (tab_below htab hx)
  clear htab
  by_cases hnm : m < n
  all_goals
    go_enter Tryd.func3, Tryd.ntmps3
    go_wp2_with fail
    refine C1.mono ?_
    rintro e x ⟨rfl, R1, B1⟩
    go_wp2_with fail
    refine (C2 x B1).mono ?_
    rintro e y ⟨rfl, R2, B2⟩
    have c1 := cells_of (row_below R1 B2)
    have c2 := cells_of R2
    have B : Below w.heap.size w y := B1.trans (B2.mono B1.size)
    clear C1 C2 R1 R2 B1 B2
    generalize x.heap.size = g at *
    go_wp2_with fail
    go_loopw [8] (fun i wr => ∃ k q : Nat, k ≤ n ∧ k ≤ m ∧ i = .int .i64 k ∧ wr = y.drewN q) (fun i _ => n - (intOf i).toNat)
    case atStart => exact ⟨0, 0, Nat.zero_le _, Nat.zero_le _, rfl, rfl⟩
    case round =>
      obtain ⟨k, q, hk, hk', rfl, rfl⟩ := hrel
      by_cases hlt : k < n ∧ k < m
      · obtain ⟨l1, l2⟩ := hlt
        have d1 := c1 k l1
        have d2 := c2 k l2
        have b1 : (k : Int) < n := by omega
        have b2 : (k : Int) < m := by omega
        clear c1 c2
        generalize name k = s at *
        go_wp2
        go_quiet (fail)
        go_wp2
        go_roundw
        case rel => exact ⟨k + 1, _, by omega, by omega, by go_num, rfl⟩
        case measure => simp [intOf]; omega
      · have c1' : ∀ j, j < n → (y.drewN q).cell? ⟨w.heap.size, j, none⟩ = some (.string (name j)) := c1
        have c2' : ∀ j, j < m → (y.drewN q).cell? ⟨g, j, none⟩ = some (.string (name j)) := c2
        have BY : Below w.heap.size w (y.drewN q) := B.trans ⟨rfl, rfl, rfl, Nat.le_refl _, fun _ _ => rfl⟩
        clear c1 c2
        generalize y.drewN q = y2 at *
        have he : ((k : Int) < n ∧ (k : Int) < m) = False := by simp; omega
        first
          | (have hq : ¬ (k : Int) < m := by omega
             have hq' : (m : Int) < n := by omega)
          | (have hq : ¬ (k : Int) < n := by omega)
        clear he
        go_wp2_with fail
        go_loop [9] (fun i => ∃ k : Nat, k ≤ n ∧ i = .int .i64 k) (fun i => n - (intOf i).toNat)
        case atStart => exact ⟨0, Nat.zero_le _, rfl⟩
        case round =>
          obtain ⟨k2, hk2, rfl⟩ := hrel
          by_cases hlt2 : k2 < n
          · have d1 := c1' k2 hlt2
            have b1 : (k2 : Int) < n := by omega
            have P1 := parse_name k2 (by omega)
            clear c1' c2'
            generalize name k2 = s at *
            go_wp2_with fail
            refine (P1 _).mono ?_
            rintro e x' ⟨rfl, rfl⟩
            clear P1
            go_wp2
            go_round
            case rel => first | exact ⟨k2 + 1, by omega, by go_num⟩ | (refine ⟨trivial, ?_⟩; (repeat apply Exists.intro); refine ⟨⟨k2 + 1, by omega, ?_⟩, rfl⟩; go_num)
            case measure => simp [intOf]; omega
          · go_wp2_with fail
            go_loop [12] (fun i => ∃ k : Nat, k ≤ m ∧ i = .int .i64 k) (fun i => m - (intOf i).toNat)
            case atStart => exact ⟨0, Nat.zero_le _, rfl⟩
            case round =>
              obtain ⟨k3, hk3, rfl⟩ := hrel
              by_cases hlt3 : k3 < m
              · have d1 := c2' k3 hlt3
                have b1 : (k3 : Int) < m := by omega
                have P1 := parse_name k3 (by omega)
                clear c1' c2'
                generalize name k3 = s at *
                go_wp2_with fail
                refine (P1 _).mono ?_
                rintro e x' ⟨rfl, rfl⟩
                clear P1
                go_wp2
                go_round
                case rel => first | exact ⟨k3 + 1, by omega, by go_num⟩ | (refine ⟨trivial, ?_⟩; (repeat apply Exists.intro); refine ⟨⟨k3 + 1, by omega, ?_⟩, rfl⟩; go_num)
                case measure => simp [intOf]; omega
              · go_wp2_with fail
                go_ret
                exact ⟨rfl, BY⟩

set_option maxHeartbeats 400000 in
theorem law_out (n m : Int) (h : ¬ (0 ≤ n ∧ n ≤ 65536 ∧ 0 ≤ m ∧ m ≤ 65536)) (w : World) :
    Calls Tryd.prog 3 #[.int .i64 n, .int .i64 m] w fun e w' => e = .returned (.bool true) ∧ Below w.heap.size w w' := by
  by_cases h1 : n < 0
  · go_enter Tryd.func3, Tryd.ntmps3
    go_wp2_with fail
    go_ret
    exact ⟨rfl, Below.refl _ _⟩
  · by_cases h2 : 65536 < n
    · go_enter Tryd.func3, Tryd.ntmps3
      go_wp2_with fail
      go_ret
      exact ⟨rfl, Below.refl _ _⟩
    · by_cases h3 : m < 0
      · go_enter Tryd.func3, Tryd.ntmps3
        go_wp2_with fail
        go_ret
        exact ⟨rfl, Below.refl _ _⟩
      · have h4 : 65536 < m := by omega
        go_enter Tryd.func3, Tryd.ntmps3
        go_wp2_with fail
        go_ret
        exact ⟨rfl, Below.refl _ _⟩

theorem law_walk (n m : Int) (w : World) (htab : Lib.TabIs Tryd.prog w Tryd.powName .u64 Lib.pow10Tab) :
    Calls Tryd.prog 3 #[.int .i64 n, .int .i64 m] w fun e w' => e = .returned (.bool true) ∧ Below w.heap.size w w' := by
  by_cases h : 0 ≤ n ∧ n ≤ 65536 ∧ 0 ≤ m ∧ m ≤ 65536
  · obtain ⟨a, rfl⟩ : ∃ a : Nat, n = a := ⟨n.toNat, by omega⟩
    obtain ⟨b, rfl⟩ : ∃ b : Nat, m = b := ⟨m.toNat, by omega⟩
    exact law_in a b (by omega) (by omega) w htab
  · exact law_out n m h w

end Go.Proofs.Qxb6618423aDoor
