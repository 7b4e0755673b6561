/-
  THE WALK of FnPutOffMatchesAssociationListOverScript.
-/
import Derived.Test.Qxb6618648aFind
namespace Go.Proofs.Qxb6618648a
open Go.RowKit

theorem Try.info2 : (Try.prog.info? 2).map (fun i => (i.zero, i.size, i.bytes)) = some (some (.int .i64 0), 1, 8) := by kernel_rfl

theorem one_new {W : World} (b : Nat) (hb : b = W.heap.size) (x : Value) (t : TypeId) : ∀ j u, [x][j]? = some u → (W.alloc (.cells #[x] t)).cell? ((⟨b, 0, none⟩ : Addr).add j) = some u := by
  intro j u hu
  have hadd : (⟨b, 0, none⟩ : Addr).add j = ⟨b, j, none⟩ := by unfold Addr.add; split <;> simp_all
  rw [hadd, World.cell?_alloc_at _ _ _ _ hb]
  simpa using hu
theorem one_int (x : Int) : ∀ u ∈ [Value.int .i64 x], u.oneCell' = true := by
  intro u hu
  simp at hu
  subst hu
  rfl

/-- THE FIRST LOOP's ROUND, what it leaves: the relation's limbs. -/
structure Lists (wr : World) (gk gv len k : Nat) (ks vs : List Int) (S : List Step) : Prop where
  le : ks.length ≤ k
  rel : Rel ks vs (run (S.take k)).1 (run (S.take k)).2
  krow : KRow wr gk len ks
  vrow : KRow wr gv len vs

theorem KRow.as {w : World} {g cap n : Nat} {xs : List Int} (h : KRow w g cap xs) (hn : xs.length = n) : w.ownsRow 0 2 1 (.slice (some ⟨g, 0, none⟩) n cap) n (xs.map (Value.int .i64)) := by
  subst hn; exact h

theorem cell_alloc {W : World} {a : Addr} {v : Value} (h : W.cell? a = some v) (o : Obj) : (W.alloc o).cell? a = some v := by
  rw [World.cell?_alloc_lt _ _ _ (World.block_lt_of_cell? W a h)]; exact h

set_option maxRecDepth 100000 in
set_option maxHeartbeats 4000000 in
theorem putoff_some (b off len cap : Nat) (S : List Step) (probe : Int) (w : World) (hlen : S.length = len) (hl : len ≤ 4096) (hpos : 0 < len) (hS : Cells w b off S) (rp : InR probe) :
    Calls Try.prog 5 #[.slice (some ⟨b, off, none⟩) len cap, .int .i64 probe] w fun e w' => e = .returned (.bool true) ∧ Below w.heap.size w w' := by
  obtain ⟨i0, hi, hz0, hz1, hz2⟩ := info_parts Try.info2
  have zz := zzBytes14 (some ⟨b, off, none⟩) len cap probe w (by unfold maxLen; omega)
  have HL : Hid (S.length = len) := hlen
  have hbw : b < w.heap.size := World.block_lt_of_cell? w _ (hS.put 0 (by omega))
  have HS : Hid (Cells w b off S) := hS
  clear hS hlen
  go_enter Try.func5, Try.ntmps5
  go_wp2_with fail
  refine zz.mono ?_
  rintro e w' ⟨⟨bb, rfl⟩, rfl⟩
  clear zz
  cases bb
  · go_wp2_with fail
    go_ret
    exact ⟨rfl, Below.refl _ _⟩
  · go_wp2_with fail
    refine (new_any w).mono ?_
    rintro e x ⟨p, bm, hp, hbm, rfl, hP, hB⟩
    go_wp2_with fail
    refine (run_some p bm b off len cap S x HL.out hl (HS.out.kept (grown_of_below hB) (by simp)) (by omega) hP).mono ?_
    rintro e y ⟨rfl, hPy, hg⟩
    have BY := below_more hB hg hbm
    have HP : Hid (Place y p bm len (run S).1 (run S).2) := hPy
    have HC : Hid (Cells y b off S) := HS.out.kept (grown_of_below BY) (by simp)
    clear hP hB hg hPy HS
    obtain ⟨y1, m1, o1, g1⟩ := run_make_own (P := Try.prog) y 0 34 2 i0 (.int .i64 0) 1 Try.underlying34 hi hz0 hz1 .i64 .i64 len (by rw [hz2]; omega) (by unfold maxLen; omega) (Nat.zero_le _)
    obtain ⟨y2, m2, o2, g2⟩ := run_make_own (P := Try.prog) y1 0 34 2 i0 (.int .i64 0) 1 Try.underlying34 hi hz0 hz1 .i64 .i64 len (by rw [hz2]; omega) (by unfold maxLen; omega) (Nat.zero_le _)
    have K0 : KRow y2 y.heap.size len [] := (World.ownsRow.kept o1 g2 (.inr (by simp [Value.ownBlock])) : _)
    have V0 : KRow y2 y1.heap.size len [] := o2
    have hgk : y.heap.size < y1.heap.size := (World.ownsRow.lt o1 y.heap.size rfl).2
    have B0 : Below y.heap.size y y2 := by
      have e1 : Below y.heap.size y y1 := Below.grown (Below.refl _ _) g1 (Nat.le_refl _) (fun k hk => by cases hk)
      exact Below.grown e1 g2 e1.size (fun k hk => by cases hk)
    clear o1 o2 g1 g2
    go_wp2_with fail
    clear m1 m2
    have hgkp : y.heap.size ≠ y1.heap.size := by omega
    have hbgk : b < y.heap.size := by have := BY.size; omega
    generalize hgk' : y.heap.size = gk at *
    generalize y1.heap.size = gv at *
    have HGK : Hid (y.heap.size = gk) := hgk'
    clear hgk'
    go_loopw [6, 7, 8] (fun kv vv i wr => ∃ (k : Nat) (ks vs : List Int), k ≤ len ∧ i = .int .i64 k ∧ kv = .slice (some ⟨gk, 0, none⟩) ks.length len ∧ vv = .slice (some ⟨gv, 0, none⟩) ks.length len ∧ Lists wr gk gv len k ks vs S ∧ Below gk y wr) (fun _ _ i _ => len - (intOf i).toNat)
    case atStart => exact ⟨0, [], [], Nat.zero_le _, rfl, rfl, rfl, ⟨Nat.le_refl _, Rel.empty, K0, V0⟩, B0⟩
    case round =>
      clear K0 V0 B0
      obtain ⟨k, ks, vs, hk, rfl, rfl, rfl, hLi, hBy⟩ := hrel
      by_cases hlt : k < len
      · have hSr := HC.out.kept (grown_of_below (HGK.out ▸ hBy)) (by simp)
        have hkl : k < S.length := by rw [HL.out]; exact hlt
        have c1 := hSr.put k hkl
        have c2 := hSr.seq k hkl
        have c3 := hSr.at_ k hkl
        have r1 := hSr.rk k hkl
        have HR : Hid (run (S.take (k + 1)) = step1 (run (S.take k)) (stepAt S k)) := run_take S k hkl
        have b1 : (k : Int) < len := by omega
        have hle := hLi.le
        have HLi : Hid (Lists wr gk gv len k ks vs S) := hLi
        clear hSr hLi
        generalize hsp : stepAt S k = sp at *
        obtain ⟨pu, key, v⟩ := sp
        simp only at c1 c2 c3 r1
        generalize hn : ks.length = n at *
        have HN : Hid (ks.length = n) := hn
        clear hn hsp
        go_wp2_with fail
        refine (find_any gk len n ks key wr HN.out (by omega) HLi.out.krow).mono ?_
        rintro e y' ⟨rfl, rfl⟩
        rcases find_spec ks key 0 with ⟨hno, hf⟩ | ⟨j, hj, hjk, hf⟩
        · rw [hf]
          have HNO : Hid (∀ j, j < ks.length → ks.getD j 0 ≠ key) := hno
          clear hno hf
          cases pu
          · have R : Lists wr gk gv len (k + 1) ks vs S := ⟨by have := HN.out; omega, by rw [HR.out]; exact HLi.out.rel.keep key HNO.out, HLi.out.krow, HLi.out.vrow⟩
            go_wp2
            go_roundw
            case rel => exact ⟨k + 1, ks, vs, by omega, by go_num, by rw [HN.out], by rw [HN.out], R, hBy⟩
            case measure => simp [intOf]; omega
          · have KR := HLi.out.krow.as HN.out
            have VR := HLi.out.vrow.as (HLi.out.rel.len.trans HN.out)
            have hb1 : some b ≠ some gk := by simp; omega
            have hvk : (Value.slice (some ⟨gv, 0, none⟩) n len).ownBlock = none ∨ (Value.slice (some ⟨gv, 0, none⟩) n len).ownBlock ≠ (Value.slice (some ⟨gk, 0, none⟩) n len).ownBlock := by simp [Value.ownBlock]; omega
            have hroom : n + 1 ≤ len := by omega
            go_wp2_with (first
              | (at_builtin; refine wpList_append_own_spare _ rfl (.tmp 57) (.tmp 63) 34 rfl 0 2 i0 1 Try.underlying34 hi hz1 gk n len _ rfl (World.ownsRow.alloc KR _) ⟨wr.heap.size, 0, none⟩ 1 1 [.int .i64 key] rfl rfl (one_new _ rfl _ _) (one_int _) hroom ?_; intro w1 hown1 hgrow1; have c3' := hgrow1.cell (cell_alloc c3 _) hb1; have VR1 := World.ownsRow.kept (World.ownsRow.alloc VR _) hgrow1 hvk)
              | (at_builtin; refine wpList_append_own_spare _ rfl (.tmp 65) (.tmp 71) 34 rfl 0 2 i0 1 Try.underlying34 hi hz1 gv n len _ rfl (World.ownsRow.alloc VR1 _) ⟨w1.heap.size, 0, none⟩ 1 1 [.int .i64 v] rfl rfl (one_new _ rfl _ _) (one_int _) hroom ?_; intro w2 hown2 hgrow2))
            have R : Lists w2 gk gv len (k + 1) (ks ++ [key]) (vs ++ [v]) S := by
              refine ⟨by have := HN.out; simp; omega, by rw [HR.out]; exact HLi.out.rel.add key v r1 HNO.out, ?_, ?_⟩
              · refine KRow.kept (row := some gv) (KRow.kept (row := none) (KRow.of (zs := ks ++ [key]) hown1 (by simp [HN.out]) (by simp [HN.out]) (by simp)) (World.grownBy_alloc w1 _ _) (by simp)) hgrow2 (by simp; omega)
              · exact KRow.of (zs := vs ++ [v]) hown2 (by simp [HLi.out.rel.len, HN.out]) (by simp [HLi.out.rel.len, HN.out]) (by simp)
            have hs0 : gk ≤ wr.heap.size := by have := hBy.size; have := HGK.out; omega
            have B1 : Below gk y w1 := Below.grown (hBy.alloc hs0 _) hgrow1 (by simp; omega) (fun k hk => by cases hk; exact Nat.le_refl _)
            have hs1 : gk ≤ w1.heap.size := by have := B1.size; have := HGK.out; omega
            have B2 : Below gk y w2 := Below.grown (B1.alloc hs1 _) hgrow2 (by simp; omega) (fun k hk => by cases hk; omega)
            clear c1 c2 c3 c3' KR VR VR1 hown1 hown2 hgrow1 hgrow2
            go_roundw
            case rel => exact ⟨k + 1, ks ++ [key], vs ++ [v], by omega, by go_num, by simp [HN.out], by simp [HN.out], R, B2⟩
            case measure => simp [intOf]; omega
        · rw [hf, Nat.zero_add]
          have hjn : j < n := by have := HN.out; omega
          have hjn' : (j : Int) < n := by omega
          have HJ : Hid (ks.getD j 0 = key) := hjk
          have hvl := HLi.out.rel.len
          clear hf hjk
          cases pu
          · -- a delete
            obtain ⟨m, rfl⟩ : ∃ m, n = m + 1 := ⟨n - 1, by omega⟩
            have k1 := HLi.out.krow.cell m (by have := HN.out; omega)
            have k2 := HLi.out.krow.cell j hj
            have k3 := HLi.out.krow.frozen j
            have v1 := HLi.out.vrow.cell m (by have := HN.out; omega)
            have v2 := HLi.out.vrow.cell j (by omega)
            have v3 := HLi.out.vrow.frozen j
            have R : Lists ((wr.setCell ⟨gk, j, none⟩ (.int .i64 (ks.getD m 0))).setCell ⟨gv, j, none⟩ (.int .i64 (vs.getD m 0))) gk gv len (k + 1) (cutAt ks j m) (cutAt vs j m) S := by
              refine ⟨by rw [cutAt_length _ _ _ HN.out]; omega, by rw [HR.out]; exact HLi.out.rel.del key j hj HJ.out HN.out, ?_, ?_⟩
              · exact ((HLi.out.krow.store j _).other gv j _ (by omega)).pop (by simp [HN.out])
              · exact ((HLi.out.vrow.other gk j _ (by omega)).store j _).pop (by simp [hvl, HN.out])
            have hcl : (cutAt ks j m).length = m := cutAt_length _ _ _ HN.out
            have B1 : Below gk y ((wr.setCell ⟨gk, j, none⟩ (.int .i64 (ks.getD m 0))).setCell ⟨gv, j, none⟩ (.int .i64 (vs.getD m 0))) := (hBy.setCell (Nat.le_refl _) _).setCell (by simp; omega) _
            have HCL : Hid ((cutAt ks j m).length = m) := hcl
            have hm1 : (m : Int) < (m : Int) + 1 := by omega
            clear hcl hvl
            generalize ks.getD m 0 = kl at *
            generalize vs.getD m 0 = vl at *
            generalize ks.getD j 0 = kj at *
            generalize vs.getD j 0 = vj at *
            go_wp2
            go_roundw
            case rel => exact ⟨k + 1, cutAt ks j m, cutAt vs j m, by omega, by go_num, by rw [HCL.out], by rw [HCL.out], R, B1⟩
            case measure => simp [intOf]; omega
          · -- a store
            have v2 := HLi.out.vrow.cell j (by omega)
            have v3 := HLi.out.vrow.frozen j
            have R : Lists (wr.setCell ⟨gv, j, none⟩ (.int .i64 v)) gk gv len (k + 1) ks (vs.set j v) S :=
              ⟨by have := HN.out; omega, by rw [HR.out]; exact HLi.out.rel.put key v j hj HJ.out, HLi.out.krow.other gv j _ (by omega), HLi.out.vrow.store j v⟩
            have B1 : Below gk y (wr.setCell ⟨gv, j, none⟩ (.int .i64 v)) := hBy.setCell (by simp; omega) _
            clear hvl
            generalize vs.getD j 0 = vj at *
            go_wp2
            go_roundw
            case rel => exact ⟨k + 1, ks, vs.set j v, by omega, by go_num, by rw [HN.out], by rw [HN.out], R, B1⟩
            case measure => simp [intOf]; omega
      · -- the first loop is left
        obtain rfl : k = len := by omega
        have HLi : Hid (Lists wr gk gv k k ks vs S) := hLi
        have HPr : Hid (Place wr p bm k (run S).1 (run S).2) := HP.out.below (HGK.out ▸ hBy)
        have HCr : Hid (Cells wr b off S) := HC.out.kept (grown_of_below (HGK.out ▸ hBy)) (by simp)
        have HRel : Hid (Rel ks vs (run S).1 (run S).2) := by
          have := hLi.rel
          rw [List.take_of_length_le (by rw [HL.out]; exact Nat.le_refl _)] at this
          exact this
        have HK : Hid (KRow wr gk k ks) := hLi.krow
        have HV : Hid (KRow wr gv k vs) := hLi.vrow
        have hle := hLi.le
        have BW : Below w.heap.size w wr := by
          have h1 : Below w.heap.size y wr := hBy.mono (by have := BY.size; have := HGK.out; omega)
          exact BY.trans h1
        clear hLi HLi HC HP hBy
        generalize (run S).1 = f at *
        have hsz := HRel.out.size
        generalize (run S).2 = s at *
        subst hsz
        generalize hn : ks.length = n at *
        have HN : Hid (ks.length = n) := hn
        clear hn
        go_wp2_with fail
        refine (len_any p bm k n f wr HPr.out).mono ?_
        rintro e y' ⟨rfl, rfl⟩
        go_wp2_with fail
        obtain ⟨wo, rfl⟩ : ∃ wo : World, wo = wr := ⟨_, rfl⟩
        -- what the map and the list say of one key, in any later world
        have AT : ∀ (key : Int) (x : World), InR key → Below wo.heap.size wo x →
            ((f key = none ∧ findAt ks key 0 = -1 ∧ Calls Try.prog 18 #[.pointer (some ⟨p, 0, none⟩), .int .i64 key] x fun e w' => e = .returned (.tuple #[.int .i64 0, .bool false]) ∧ Below x.heap.size x w') ∨
             (∃ i, i < n ∧ findAt ks key 0 = (i : Int) ∧ Calls Try.prog 18 #[.pointer (some ⟨p, 0, none⟩), .int .i64 key] x fun e w' => e = .returned (.tuple #[.int .i64 (vs.getD i 0), .bool true]) ∧ Below x.heap.size x w')) := by
          intro key x hkey hx
          have E := at_any p bm k n f key x hkey (HPr.out.below hx)
          rcases find_spec ks key 0 with ⟨hno, hf⟩ | ⟨i, hi, hik, hf⟩
          · have hm := HRel.out.miss key hno
            rw [hm] at E
            exact .inl ⟨hm, hf, E⟩
          · have hm := HRel.out.hit i hi
            rw [hik] at hm
            rw [hm] at E
            exact .inr ⟨i, by have := HN.out; omega, by rw [hf, Nat.zero_add], E⟩
        have FI : ∀ (key : Int) (x : World), Below wo.heap.size wo x → Calls Try.prog 16 #[.slice (some ⟨gk, 0, none⟩) n k, .int .i64 key] x fun e w' => e = .returned (.int .i64 (findAt ks key 0)) ∧ x = w' :=
          fun key x hx => find_any gk k n ks key x HN.out (by omega) (HK.out.below hx)
        have VC : ∀ (i : Nat) (x : World), i < n → Below wo.heap.size wo x → x.cell? ⟨gv, i, none⟩ = some (.int .i64 (vs.getD i 0)) :=
          fun i x hi hx => (HV.out.below hx).cell i (by have := HN.out; have := HRel.out.len; omega)
        have KC : ∀ (i : Nat) (x : World), i < n → Below wo.heap.size wo x → x.cell? ⟨gk, i, none⟩ = some (.int .i64 (ks.getD i 0)) :=
          fun i x hi hx => (HK.out.below hx).cell i (by have := HN.out; omega)
        have KE : ∀ (i : Nat) (x : World), i < n → Below wo.heap.size wo x → Calls Try.prog 18 #[.pointer (some ⟨p, 0, none⟩), .int .i64 (ks.getD i 0)] x fun e w' => e = .returned (.tuple #[.int .i64 (vs.getD i 0), .bool true]) ∧ Below x.heap.size x w' := by
          intro i x hi hx
          have hi' : i < ks.length := by have := HN.out; omega
          have E := at_any p bm k n f (ks.getD i 0) x (HRel.out.rk i hi') (HPr.out.below hx)
          rw [HRel.out.hit i hi'] at E
          exact E
        have SC : ∀ (i : Nat) (x : World), i < k → Below wo.heap.size wo x → x.cell? ⟨b, off + i * 3 + 1, none⟩ = some (.int .i64 (stepAt S i).2.1) :=
          fun i x hi hx => (HCr.out.kept (grown_of_below hx) (by simp)).seq i (by have := HL.out; omega)
        have SR : ∀ (i : Nat), i < k → InR (stepAt S i).2.1 := fun i hi => HCr.out.rk i (by have := HL.out; omega)
        have TR : ∀ (x y : World), Below wo.heap.size wo x → Below x.heap.size x y → Below wo.heap.size wo y := fun x y hx hy => hx.trans (hy.mono hx.size)
        have FIN : ∀ (x : World), Below wo.heap.size wo x → Below w.heap.size w x := fun x hx => BW.trans (hx.mono BW.size)
        have QA : Hid (∀ (key : Int) (x : World), InR key → Below wo.heap.size wo x →
            ((f key = none ∧ findAt ks key 0 = -1 ∧ Calls Try.prog 18 #[.pointer (some ⟨p, 0, none⟩), .int .i64 key] x fun e w' => e = .returned (.tuple #[.int .i64 0, .bool false]) ∧ Below x.heap.size x w') ∨
             (∃ i, i < n ∧ findAt ks key 0 = (i : Int) ∧ Calls Try.prog 18 #[.pointer (some ⟨p, 0, none⟩), .int .i64 key] x fun e w' => e = .returned (.tuple #[.int .i64 (vs.getD i 0), .bool true]) ∧ Below x.heap.size x w'))) := AT
        have QF : Hid (∀ (key : Int) (x : World), Below wo.heap.size wo x → Calls Try.prog 16 #[.slice (some ⟨gk, 0, none⟩) n k, .int .i64 key] x fun e w' => e = .returned (.int .i64 (findAt ks key 0)) ∧ x = w') := FI
        have QV : Hid (∀ (i : Nat) (x : World), i < n → Below wo.heap.size wo x → x.cell? ⟨gv, i, none⟩ = some (.int .i64 (vs.getD i 0))) := VC
        have QK : Hid (∀ (i : Nat) (x : World), i < n → Below wo.heap.size wo x → x.cell? ⟨gk, i, none⟩ = some (.int .i64 (ks.getD i 0))) := KC
        have QE : Hid (∀ (i : Nat) (x : World), i < n → Below wo.heap.size wo x → Calls Try.prog 18 #[.pointer (some ⟨p, 0, none⟩), .int .i64 (ks.getD i 0)] x fun e w' => e = .returned (.tuple #[.int .i64 (vs.getD i 0), .bool true]) ∧ Below x.heap.size x w') := KE
        have QS : Hid (∀ (i : Nat) (x : World), i < k → Below wo.heap.size wo x → x.cell? ⟨b, off + i * 3 + 1, none⟩ = some (.int .i64 (stepAt S i).2.1)) := SC
        have QR : Hid (∀ (i : Nat), i < k → InR (stepAt S i).2.1) := SR
        have QT : Hid (∀ (x y : World), Below wo.heap.size wo x → Below x.heap.size x y → Below wo.heap.size wo y) := TR
        have QN : Hid (∀ (x : World), Below wo.heap.size wo x → Below w.heap.size w x) := FIN
        clear AT FI VC KC KE SC SR TR FIN HPr HCr HRel HK HV BW BY
        go_loopw [11] (fun i wr => ∃ j : Nat, j ≤ n ∧ i = .int .i64 j ∧ Below wo.heap.size wo wr) (fun i _ => n - (intOf i).toNat)
        case atStart => exact ⟨0, Nat.zero_le _, rfl, Below.refl _ _⟩
        case round =>
          obtain ⟨j, hj, rfl, hBo⟩ := hrel
          by_cases hjt : j < n
          · have c1 := QK.out j wr hjt hBo
            have E := QE.out j wr hjt hBo
            have vc := fun x (hx : Below wr.heap.size wr x) => QV.out j x hjt (QT.out wr x hBo hx)
            have b1 : (j : Int) < n := by omega
            generalize ks.getD j 0 = kj at *
            generalize vs.getD j 0 = vj at *
            go_wp2_with fail
            refine E.mono ?_
            rintro e x' ⟨rfl, bx⟩
            have c2 := vc x' bx
            have BX := QT.out wr x' hBo bx
            clear c1 E vc bx hBo
            go_wp2
            go_roundw
            case rel => exact ⟨j + 1, by omega, by go_num, BX⟩
            case measure => simp [intOf]; omega
          · obtain rfl : j = n := by omega
            go_wp2_with fail
            obtain ⟨wq, rfl⟩ : ∃ wq : World, wq = wr := ⟨_, rfl⟩
            go_loopw [14] (fun i wr => ∃ j : Nat, j ≤ k ∧ i = .int .i64 j ∧ Below wo.heap.size wo wr) (fun i _ => k - (intOf i).toNat)
            case atStart => exact ⟨0, Nat.zero_le _, rfl, hBo⟩
            case round =>
              clear hBo
              obtain ⟨t, ht, rfl, hBt⟩ := hrel
              by_cases htk : t < k
              · have c1 := QS.out t wr htk hBt
                have A := QA.out (stepAt S t).2.1 wr (QR.out t htk) hBt
                have c2 := fun x (hx : Below wr.heap.size wr x) => QS.out t x htk (QT.out wr x hBt hx)
                have F := fun x (hx : Below wr.heap.size wr x) => QF.out (stepAt S t).2.1 x (QT.out wr x hBt hx)
                have b1 : (t : Int) < k := by omega
                generalize (stepAt S t).2.1 = key at *
                rcases A with ⟨_, hf, E⟩ | ⟨i, hi', hf, E⟩
                · rw [hf] at F
                  clear hf
                  go_wp2_with fail
                  refine E.mono ?_
                  rintro e x' ⟨rfl, bx⟩
                  have c2' := c2 x' bx
                  have F' := F x' bx
                  have BX := QT.out wr x' hBt bx
                  clear c1 E c2 F bx hBt
                  go_wp2_with fail
                  refine F'.mono ?_
                  rintro e x'' ⟨rfl, rfl⟩
                  clear F' c2'
                  go_wp2
                  go_roundw
                  case rel => exact ⟨t + 1, by omega, by go_num, BX⟩
                  case measure => simp [intOf]; omega
                · rw [hf] at F
                  clear hf
                  generalize vs.getD i 0 = vi at *
                  go_wp2_with fail
                  refine E.mono ?_
                  rintro e x' ⟨rfl, bx⟩
                  have c2' := c2 x' bx
                  have F' := F x' bx
                  have BX := QT.out wr x' hBt bx
                  clear c1 E c2 F bx hBt
                  go_wp2_with fail
                  refine F'.mono ?_
                  rintro e x'' ⟨rfl, rfl⟩
                  clear F' c2'
                  go_wp2
                  go_roundw
                  case rel => exact ⟨t + 1, by omega, by go_num, BX⟩
                  case measure => simp [intOf]; omega
              · obtain rfl : t = k := by omega
                have A := QA.out probe wr rp hBt
                have F := fun x (hx : Below wr.heap.size wr x) => QF.out probe x (QT.out wr x hBt hx)
                rcases A with ⟨_, hf, E⟩ | ⟨i, hi', hf, E⟩
                · rw [hf] at F
                  clear hf
                  go_wp2_with fail
                  refine E.mono ?_
                  rintro e x' ⟨rfl, bx⟩
                  have F' := F x' bx
                  have BX := QT.out wr x' hBt bx
                  clear E F bx hBt
                  go_wp2_with fail
                  refine F'.mono ?_
                  rintro e x'' ⟨rfl, rfl⟩
                  clear F'
                  go_wp2
                  go_ret
                  exact ⟨rfl, QN.out _ BX⟩
                · rw [hf] at F
                  clear hf
                  have vc := fun x (hx : Below wr.heap.size wr x) => QV.out i x hi' (QT.out wr x hBt hx)
                  have b1 : (i : Int) < j := by omega
                  generalize vs.getD i 0 = vi at *
                  go_wp2_with fail
                  refine E.mono ?_
                  rintro e x' ⟨rfl, bx⟩
                  have F' := F x' bx
                  have c2' := vc x' bx
                  have BX := QT.out wr x' hBt bx
                  clear E F bx hBt vc
                  go_wp2_with fail
                  refine F'.mono ?_
                  rintro e x'' ⟨rfl, rfl⟩
                  clear F'
                  go_wp2
                  go_ret
                  exact ⟨rfl, QN.out _ BX⟩

end Go.Proofs.Qxb6618648a
