/- Owed, walked. -/
import Derived.Test.Qxb6605248aOwedA
set_option linter.unusedVariables false
namespace Go.Proofs.Qxb6605248a
open Go.RowKit Go.Maps

set_option maxRecDepth 2000 in
set_option maxHeartbeats 8000000 in
theorem owed22 (p : Pl) (rg m : Nat) (rc : Nat → Rec) (G : Nat → Int) (w : World) (hp : p.At w) (hr : OwedIn w rg m rc G) (hm : m ≤ 65536) (hpn : p.n ≤ 4096) (hpw : ∀ j, j < p.n → (Lit.int .i64 (p.Ph j)).wf = true) :
    Calls Try.prog 22 #[.pointer (some ⟨p.pb, 0, none⟩), .slice (some ⟨rg, 0, none⟩) m m] w fun e w' => ∃ v, e = .returned v ∧ OwnInts w' (w.heap.size + 1) v (sweep p.Ph (owedF p rc G m) p.n).1 ∧ Below w.heap.size w w' := by
  have HP : Hid (p.At w) := hp
  have HR : Hid (OwedIn w rg m rc G) := hr
  have HW : Hid (∀ j, j < p.n → (Lit.int .i64 (p.Ph j)).wf = true) := hpw
  clear hp hr hpw
  have hmm := @run_makeMap Try.prog
  go_enter Try.func22, Try.ntmps22
  go_wp2_with fail
  clear hmm
  go_loopw [15] (fun i wr => ∃ k : Nat, ∃ F : Lit → Option Value, k ≤ m ∧ i = .int .i64 k ∧ Hid (MapIs wr 3 w.heap.size k F) ∧ Hid (Good F (owedF p rc G k)) ∧ Hid (Below w.heap.size w wr)) (fun i _ => m - (intOf i).toNat)
  case atStart => exact ⟨0, fun _ => none, Nat.zero_le _, rfl, MapIs.made w 3, (fun x => rfl), (Below.refl _ _).alloc (Nat.le_refl _) _⟩
  case round =>
    obtain ⟨k, F, hk, rfl, HM, HG, HB⟩ := hrel
    by_cases hlt : k < m
    · obtain ⟨c0, c1, c2, c3, c4, c5, c6, c7, c8, c9, c10⟩ := (HR.out.later HB.out).row.cells k hlt
      have HSZ : Hid ((rc k).task.size ≤ maxLen) := HR.out.size k hlt
      have HGT : Hid (∀ q, (rc k).gate = some q → w.cell? q = some (.int .i64 (G k))) := HR.out.gate k hlt
      have HDU : Hid ((rc k).ev = dueS → (rc k).gate ≠ none) := HR.out.due k hlt
      have HWF : Hid ((rc k).gate ≠ none → (Lit.int .i64 (G k)).wf = true) := HR.out.wf k hlt
      have HST : Hid (owedF p rc G (k + 1) = owedStep p (owedF p rc G k) (rc k) (G k)) := rfl
      generalize owedF p rc G k = f at *
      generalize rc k = q at *
      obtain ⟨task, gate, disp, att, ver, ev, pid, boot, start, sess, reason⟩ := q
      simp only at c0 c1 c2 c3 c4 c5 c6 c7 c8 c9 c10
      have i0 : (0 : Int) ≤ (k : Int) := by omega
      have i1 : (k : Int) < (m : Int) := by omega
      have hml : w.heap.size < wr.heap.size := HM.out.lt
      go_upto_region 5 with fail
      obtain ⟨w2, hw2⟩ : ∃ w2 : World, w2 = wr.alloc (.cells #[.string task, .pointer gate, .bool disp, .int .i64 att, .bool ver, .string ev, .int .i64 pid, .string boot, .int .u64 start, .int .i64 sess, .string reason] 41) := ⟨_, rfl⟩
      have d0 : w2.cell? ⟨wr.heap.size, 0, none⟩ = some (.string task) := by rw [hw2]; simp
      have d1 : w2.cell? ⟨wr.heap.size, 1, none⟩ = some (.pointer gate) := by rw [hw2]; simp
      have d5 : w2.cell? ⟨wr.heap.size, 5, none⟩ = some (.string ev) := by rw [hw2]; simp
      have hb2 : Below wr.heap.size wr w2 := by rw [hw2]; exact (Below.refl _ _).alloc (Nat.le_refl _) _
      rw [← hw2]
      clear hw2 c0 c1 c2 c3 c4 c5 c6 c7 c8 c9 c10
      have HM2 : Hid (MapIs w2 3 w.heap.size k F) := HM.out.of_block (hb2.block _ hml)
      have HB2 : Hid (Below w.heap.size w w2) := HB.out.trans (hb2.mono HB.out.size)
      have hz2 : w.heap.size ≤ w2.heap.size := HB2.out.size
      clear hb2
      by_cases hfin : ev = finS
      · subst hfin
        cases gate with
        | some qa =>
          have r2 : w2.cell? qa = some (.int .i64 (G k)) := cell_later HB2.out (HGT.out qa rfl)
          obtain ⟨qb, qo, qs⟩ := qa
          have hsp : qs = none := World.cell?_spot r2
          subst hsp
          have HK : Hid (keyOf Try.prog 3 (.int .i64 (G k)) = some (.int .i64 (G k))) := Maps.keyOf_int_mk Try.underlying3 (HWF.out (by simp))
          have HF1 : Hid (owedF p rc G (k + 1) = setB f (G k) false) := HST.out.trans (step_fin_some _ _ _ _ _ rfl rfl)
          unfold finS at d5
          go_wp2_with (first | (refine wpList_put rfl _ _ _ 73 rfl 3 4 law3 Try.underlying73 w.heap.size k F rfl HM2.out ?c1 (.int .i64 (G k)) (.bool false) _ rfl rfl HK.out ?_))
          case c1 => unfold maxLen; omega
          intro w3 hm3 hg3
          have HM3 : Hid (MapIs w3 3 w.heap.size (k + 1) (putF F (.int .i64 (G k)) (.bool false))) := hm3
          have HB3 : Hid (Below w.heap.size w w3) := HB2.out.trans (below_grown hg3 (Nat.le_refl _) hz2)
          clear hm3 hg3
          go_wp2_with fail
          go_roundw
          case rel => exact ⟨k + 1, _, by omega, by go_num, HM3, by rw [HF1.out]; exact HG.out.put _ _, HB3⟩
          case measure => simp [intOf]; omega
        | none =>
          have HF0 : Hid (∀ i : Nat, idxOf p.F task = i → owedF p rc G (k + 1) = setB f (p.Ph i) true) := fun i hi => HST.out.trans (step_fin_yes _ _ _ _ i rfl rfl hi)
          have HF2 : Hid (idxOf p.F task = -1 → owedF p rc G (k + 1) = f) := fun hi => HST.out.trans (step_fin_no _ _ _ _ rfl rfl hi)
          unfold finS at d5
          have HP2 : Hid (p.At w2) := HP.out.later HB2.out
          go_wp2_with fail
          refine (index36 p task w2 HP2.out HSZ.out).mono ?_
          rintro e w' ⟨rfl, hix, hw⟩
          obtain rfl := hw.symm
          clear hw
          rcases hix with hix | ⟨i, hi, hix⟩
          · have HF1 : Hid (owedF p rc G (k + 1) = f) := HF2.out hix
            rw [hix]
            go_wp2_with fail
            go_roundw
            case rel => exact ⟨k + 1, F, by omega, by go_num, HM2.out.mono (by omega), by rw [HF1.out]; exact HG, HB2⟩
            case measure => simp [intOf]; omega
          · have HF1 : Hid (owedF p rc G (k + 1) = setB f (p.Ph i) true) := HF0.out i hix
            rw [hix]
            have HK : Hid (keyOf Try.prog 3 (.int .i64 (p.Ph i)) = some (.int .i64 (p.Ph i))) := Maps.keyOf_int_mk Try.underlying3 (HW.out i hi)
            have p1 := HP2.out.1
            have p2 : w2.cell? ⟨p.g, i * 15 + 4, none⟩ = some (.int .i64 (p.Ph i)) := HP2.out.task4 i hi
            have j0 : (0 : Int) ≤ (i : Int) := by omega
            have j1 : (i : Int) < (p.n : Int) := by omega
            go_wp2_with (first | (refine wpList_put rfl _ _ _ 73 rfl 3 4 law3 Try.underlying73 w.heap.size k F rfl HM2.out ?c1 (.int .i64 (p.Ph i)) (.bool true) _ rfl rfl HK.out ?_))
            case c1 => unfold maxLen; omega
            intro w3 hm3 hg3
            have HM3 : Hid (MapIs w3 3 w.heap.size (k + 1) (putF F (.int .i64 (p.Ph i)) (.bool true))) := hm3
            have HB3 : Hid (Below w.heap.size w w3) := HB2.out.trans (below_grown hg3 (Nat.le_refl _) hz2)
            clear hm3 hg3
            go_wp2_with fail
            go_roundw
            case rel => exact ⟨k + 1, _, by omega, by go_num, HM3, by rw [HF1.out]; exact HG.out.put _ _, HB3⟩
            case measure => simp [intOf]; omega
      · by_cases hdue : ev = dueS
        · subst hdue
          cases gate with
          | none => exact absurd rfl (HDU.out rfl)
          | some qa =>
            have r2 : w2.cell? qa = some (.int .i64 (G k)) := cell_later HB2.out (HGT.out qa rfl)
            obtain ⟨qb, qo, qs⟩ := qa
            have hsp : qs = none := World.cell?_spot r2
            subst hsp
            have HK : Hid (keyOf Try.prog 3 (.int .i64 (G k)) = some (.int .i64 (G k))) := Maps.keyOf_int_mk Try.underlying3 (HWF.out (by simp))
            have HF1 : Hid (owedF p rc G (k + 1) = setB f (G k) true) := HST.out.trans (step_due _ _ _ _ rfl)
            unfold dueS at d5
            go_wp2_with (first | (refine wpList_put rfl _ _ _ 73 rfl 3 4 law3 Try.underlying73 w.heap.size k F rfl HM2.out ?c1 (.int .i64 (G k)) (.bool true) _ rfl rfl HK.out ?_))
            case c1 => unfold maxLen; omega
            intro w3 hm3 hg3
            have HM3 : Hid (MapIs w3 3 w.heap.size (k + 1) (putF F (.int .i64 (G k)) (.bool true))) := hm3
            have HB3 : Hid (Below w.heap.size w w3) := HB2.out.trans (below_grown hg3 (Nat.le_refl _) hz2)
            clear hm3 hg3
            go_wp2_with fail
            go_roundw
            case rel => exact ⟨k + 1, _, by omega, by go_num, HM3, by rw [HF1.out]; exact HG.out.put _ _, HB3⟩
            case measure => simp [intOf]; omega
        · have HF1 : Hid (owedF p rc G (k + 1) = f) := HST.out.trans (step_other _ _ _ _ hfin hdue)
          have e1 : (ev.toList == [102, 105, 110, 105, 115, 104, 101, 100]) = false := str_ne _ _ hfin
          have e2 : (ev.toList == [100, 117, 101]) = false := str_ne _ _ hdue
          go_wp2_with fail
          go_roundw
          case rel => exact ⟨k + 1, F, by omega, by go_num, HM2.out.mono (by omega), by rw [HF1.out]; exact HG, HB2⟩
          case measure => simp [intOf]; omega
    · obtain rfl : k = m := by omega
      obtain ⟨wo, hwo⟩ : ∃ wo : World, wo = wr := ⟨_, rfl⟩
      rw [← hwo] at HM HB ⊢
      clear hwo
      have HPo : Hid (p.At wo) := HP.out.later HB.out
      have p1 := HPo.out.1
      go_wp2_with fail
      clear p1
      go_loopw [9, 59] (fun v i wr => ∃ j : Nat, ∃ F2 : Lit → Option Value, j ≤ p.n ∧ i = .int .i64 j ∧ Hid (OwnInts wr (w.heap.size + 1) v (sweep p.Ph (owedF p rc G k) j).1) ∧ Hid (MapIs wr 3 w.heap.size (k + j) F2) ∧ Hid (Good F2 (sweep p.Ph (owedF p rc G k) j).2) ∧ Hid (Below w.heap.size w wr)) (fun _ i _ => p.n - (intOf i).toNat)
      case atStart => exact ⟨0, F, Nat.zero_le _, rfl, World.ownsRow_nil _ _ _ _, HM, HG, HB⟩
      case round =>
        obtain ⟨j, F2, hj, rfl, HO, HM2, HG2, HB2⟩ := hrel
        have hml : w.heap.size < wr.heap.size := HM2.out.lt
        by_cases hlt2 : j < p.n
        · obtain ⟨c0, c1, c2, c3, c4, c5, c6, c7, c8, c9, c10, c11, c12, c13, c14⟩ := (HP.out.later HB2.out).task15 j hlt2
          have i0 : (0 : Int) ≤ (j : Int) := by omega
          have i1 : (j : Int) < (p.n : Int) := by omega
          have HK : Hid (keyOf Try.prog 3 (.int .i64 (p.Ph j)) = some (.int .i64 (p.Ph j))) := Maps.keyOf_int_mk Try.underlying3 (HW.out j hlt2)
          have HL : Hid ((sweep p.Ph (owedF p rc G k) j).1.length ≤ 65536) := Nat.le_trans (sweep_len _ _ _) (by omega)
          go_upto_region 19 with fail
          obtain ⟨w2, hw2⟩ : ∃ w2 : World, w2 = wr.alloc (.cells #[.string (p.I j), .string ⟨#[]⟩, .string ⟨#[]⟩, .bool false, .int .i64 (p.Ph j), .bool false, .slice none 0 0, .bool false, .slice none 0 0, .string ⟨#[]⟩, .int .i64 0, .int .i64 0, .int .i64 0, .int .i64 0, .slice none 0 0] 70) := ⟨_, rfl⟩
          have d4 : w2.cell? ⟨wr.heap.size, 4, none⟩ = some (.int .i64 (p.Ph j)) := by rw [hw2]; simp
          have hb2 : Below wr.heap.size wr w2 := by rw [hw2]; exact (Below.refl _ _).alloc (Nat.le_refl _) _
          rw [← hw2]
          clear hw2 c0 c1 c2 c3 c4 c5 c6 c7 c8 c9 c10 c11 c12 c13 c14
          have HMb : Hid (MapIs w2 3 w.heap.size (k + j) F2) := HM2.out.of_block (hb2.block _ hml)
          have HBb : Hid (Below w.heap.size w w2) := HB2.out.trans (hb2.mono HB2.out.size)
          have HOb : Hid (OwnInts w2 (w.heap.size + 1) u9 (sweep p.Ph (owedF p rc G k) j).1) := HO.out.of_below hb2
          have hz2 : wr.heap.size ≤ w2.heap.size := hb2.size
          clear hb2
          cases hsw : (sweep p.Ph (owedF p rc G k) j).2 (p.Ph j)
          · have HV : Hid ((F2 (.int .i64 (p.Ph j))).getD (.bool false) = .bool false) := (HG2.out _).trans (by rw [hsw])
            have HS : Hid (sweep p.Ph (owedF p rc G k) (j + 1) = sweep p.Ph (owedF p rc G k) j) := by
              show _ = _
              rw [sweep, if_neg (by rw [hsw]; simp)]
            go_wp2_with (first | (refine wpList_look_v rfl _ _ 73 rfl 3 4 law3 Try.underlying73 (.bool false) (zero4 _) w.heap.size (k + j) F2 rfl HMb.out (.int .i64 (p.Ph j)) _ rfl HK.out _ HV.out ?_))
            go_roundw
            case rel => exact ⟨j + 1, F2, by omega, by go_num, by rw [HS.out]; exact HOb, HMb.out.mono (by omega), by rw [HS.out]; exact HG2, HBb⟩
            case measure => simp [intOf]; omega
          · have HV : Hid ((F2 (.int .i64 (p.Ph j))).getD (.bool false) = .bool true) := (HG2.out _).trans (by rw [hsw])
            have HS : Hid (sweep p.Ph (owedF p rc G k) (j + 1) = ((sweep p.Ph (owedF p rc G k) j).1 ++ [p.Ph j], setB (sweep p.Ph (owedF p rc G k) j).2 (p.Ph j) false)) := by
              show _ = _
              rw [sweep, if_pos hsw]
            go_wp2_with (first | (refine wpList_look_v rfl _ _ 73 rfl 3 4 law3 Try.underlying73 (.bool false) (zero4 _) w.heap.size (k + j) F2 rfl HMb.out (.int .i64 (p.Ph j)) _ rfl HK.out _ HV.out ?_) | (refine wpList_push rfl _ _ rfl (w.heap.size + 1) _ (sweep p.Ph (owedF p rc G k) j).1 rfl ?k2 w2.heap.size (p.Ph j) ?k3 ?c1 ?c2 ?c3 ?_))
            case k2 => exact World.ownsRow.alloc HOb.out _
            case k3 => rfl
            case c1 => simp
            case c2 => exact HL.out
            case c3 => simp; omega
            · intro v' w3 hown' hgrow
              have hob : ∀ x, u9.ownBlock = some x → w.heap.size + 1 ≤ x ∧ x < wr.heap.size := fun x hx => World.ownsRow.lt HO.out x hx
              have hA : Below w2.heap.size w2 (w2.alloc (.cells #[.int .i64 (p.Ph j)] 3)) := (Below.refl _ _).alloc (Nat.le_refl _) _
              have HM3 : Hid (MapIs w3 3 w.heap.size (k + j) F2) := by
                refine HMb.out.of_block ?_
                refine (hgrow.block _ (by simp; omega) ?_).trans (hA.block _ (by omega))
                intro e
                have := hob _ e.symm
                omega
              have HB3 : Hid (Below w.heap.size w w3) := (HBb.out.alloc (by omega) _).grown hgrow (by simp; omega) (fun x hx => by have := hob x hx; omega)
              have HO3 : Hid (OwnInts w3 (w.heap.size + 1) v' ((sweep p.Ph (owedF p rc G k) j).1 ++ [p.Ph j])) := hown'
              have d4' : w3.cell? ⟨wr.heap.size, 4, none⟩ = some (.int .i64 (p.Ph j)) := by
                rw [← d4]
                refine World.cell?_of_block ?_
                refine (hgrow.block _ (by simp; have := World.block_lt_of_cell? _ _ d4; simp only at this; omega) ?_).trans (hA.block _ (World.block_lt_of_cell? _ _ d4))
                intro e
                have := hob _ e.symm
                simp only at this
                omega
              have hz3 : w.heap.size ≤ w3.heap.size := HB3.out.size
              clear hown' hgrow hob hA d4
              go_wp2_with (first | (refine wpList_put rfl _ _ _ 73 rfl 3 4 law3 Try.underlying73 w.heap.size (k + j) F2 rfl HM3.out ?c1 (.int .i64 (p.Ph j)) (.bool false) _ rfl rfl HK.out ?_))
              case c1 => unfold maxLen; omega
              intro w4 hm4 hg4
              have HM4 : Hid (MapIs w4 3 w.heap.size (k + j + 1) (putF F2 (.int .i64 (p.Ph j)) (.bool false))) := hm4
              have HB4 : Hid (Below w.heap.size w w4) := HB3.out.trans (below_grown hg4 (Nat.le_refl _) hz3)
              have HO4 : Hid (OwnInts w4 (w.heap.size + 1) v' ((sweep p.Ph (owedF p rc G k) j).1 ++ [p.Ph j])) := by
                refine World.ownsRow.kept HO3.out hg4 (.inr ?_)
                intro e
                have := (World.ownsRow.lt HO3.out _ e).1
                omega
              clear hm4 hg4
              go_wp2_with fail
              go_roundw
              case rel => exact ⟨j + 1, _, by omega, by go_num, by rw [HS.out]; exact HO4, HM4, by rw [HS.out]; exact HG2.out.put _ _, HB4⟩
              case measure => simp [intOf]; omega
        · obtain rfl : j = p.n := by omega
          go_wp2_with fail
          go_ret
          exact ⟨_, rfl, HO.out, HB2.out⟩
end Go.Proofs.Qxb6605248a
