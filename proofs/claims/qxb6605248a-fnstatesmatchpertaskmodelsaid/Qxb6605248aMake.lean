/- zzMakeRecords, walked. -/
import Derived.Test.Qxb6605248aRecs
set_option linter.unusedVariables false
namespace Go.Proofs.Qxb6605248a
open Go.RowKit

set_option maxRecDepth 4000 in
set_option maxHeartbeats 16000000 in
theorem make11 (r : Recs) (w : World) (h : r.In w) (hn : r.F.n ≤ 4096) :
    Calls Try.prog 11 r.args w fun e w' => e = .returned (.slice (some ⟨w.heap.size, 0, none⟩) r.F.n r.F.n) ∧ w'.rowIs w.heap.size 41 (r.F.n * 11) (recCell r.at r.F.n) ∧ Below w.heap.size w w' := by
  obtain ⟨⟨aA, nA, cA, bA, oA⟩, T, ⟨aB, nB, cB, bB, oB⟩, P, ⟨aC, nC, cC, bC, oC⟩, Di, ⟨aD, nD, cD, bD, oD⟩, At, ⟨aE, nE, cE, bE, oE⟩, Ve, ⟨aF, nF, cF, bF, oF⟩, Ev, ⟨aG, nG, cG, bG, oG⟩, Pi, ⟨aI, nI, cI, bI, oI⟩, Bo, ⟨aJ, nJ, cJ, bJ, oJ⟩, Sta, ⟨aK, nK, cK, bK, oK⟩, Se, ⟨aL, nL, cL, bL, oL⟩, Re⟩ := r
  obtain ⟨hA, hB, hC, hD, hE, hF, hG, hI, hJ, hK, hL⟩ := h
  simp only [Recs.args] at *
  have HA : Hid (Row w aA nA bA oA (fun j => .string (T j))) := hA
  have HB : Hid (Row w aB nB bB oB (fun j => .pointer (P j))) := hB
  have HC : Hid (Row w aC nC bC oC (fun j => .bool (Di j))) := hC
  have HD : Hid (Row w aD nD bD oD (fun j => .int .i64 (At j))) := hD
  have HE : Hid (Row w aE nE bE oE (fun j => .bool (Ve j))) := hE
  have HF : Hid (Row w aF nF bF oF (fun j => .string (Ev j))) := hF
  have HG : Hid (Row w aG nG bG oG (fun j => .int .i64 (Pi j))) := hG
  have HI : Hid (Row w aI nI bI oI (fun j => .string (Bo j))) := hI
  have HJ : Hid (Row w aJ nJ bJ oJ (fun j => .int .u64 (Sta j))) := hJ
  have HK : Hid (Row w aK nK bK oK (fun j => .int .i64 (Se j))) := hK
  have HL : Hid (Row w aL nL bL oL (fun j => .string (Re j))) := hL
  clear hA hB hC hD hE hF hG hI hJ hK hL
  obtain ⟨rc, hrc⟩ : ∃ rc : Nat → Rec, rc = Recs.at ⟨⟨aA, nA, cA, bA, oA⟩, T, ⟨aB, nB, cB, bB, oB⟩, P, ⟨aC, nC, cC, bC, oC⟩, Di, ⟨aD, nD, cD, bD, oD⟩, At, ⟨aE, nE, cE, bE, oE⟩, Ve, ⟨aF, nF, cF, bF, oF⟩, Ev, ⟨aG, nG, cG, bG, oG⟩, Pi, ⟨aI, nI, cI, bI, oI⟩, Bo, ⟨aJ, nJ, cJ, bJ, oJ⟩, Sta, ⟨aK, nK, cK, bK, oK⟩, Se, ⟨aL, nL, cL, bL, oL⟩, Re⟩ := ⟨_, rfl⟩
  rw [← hrc]
  have HRC : Hid (∀ k, (((((((((((({ Rec.zero with ev := Ev k } : Rec).fA k nA T).fB k nB P).fC k nC Di).fD k nD At).fE k nE Ve).fG k nG Pi).fI k nI Bo).fJ k nJ Sta).fK k nK Se).fL k nL Re) = rc k)) := fun k => by rw [hrc]; rfl
  clear hrc
  have hmk := fun w => run_make_many (P := Try.prog) 30 41 _ 11 120 Try.underlying30 info41 nF (by omega) (by omega) w
  go_enter Try.func11, Try.ntmps11
  go_wp2_with fail
  go_loopw [25] (fun i wr => ∃ k : Nat, k ≤ nF ∧ i = .int .i64 k ∧ Hid (wr.rowIs w.heap.size 41 (nF * 11) (recCell rc k)) ∧ Hid (Below w.heap.size w wr)) (fun i _ => nF - (intOf i).toNat)
  case atStart =>
    refine ⟨0, Nat.zero_le _, rfl, ?_, (Below.refl _ _).alloc (Nat.le_refl _) _⟩
    refine (rowIs_made_many w _ (nF * 11) 41).congr ?_
    intro i hi
    simp only [recCell, Nat.not_lt_zero, if_false]
    have hz : ∀ j, j < 11 → (#[Value.string ⟨#[]⟩, Value.pointer none, Value.bool false, Value.int .i64 0, Value.bool false, Value.string ⟨#[]⟩, Value.int .i64 0, Value.string ⟨#[]⟩, Value.int .u64 0, Value.int .i64 0, Value.string ⟨#[]⟩] : Array Value)[j]! = Rec.zero.cells.getD j undef := by
      intro j hj
      rcases lt11 j hj with h | h | h | h | h | h | h | h | h | h | h <;> subst h <;> rfl
    exact hz (i % 11) (Nat.mod_lt _ (by omega))
  case round =>
    obtain ⟨k, hk, rfl, HO, HBW⟩ := hrel
    by_cases hlt : k < nF
    · have hwl : w.heap.size < wr.heap.size := HO.out.lt
      have i0 : (0 : Int) ≤ (k : Int) := by omega
      have i1 : (k : Int) < (nF : Int) := by omega
      go_upto_region 7 with fail
      obtain ⟨w1, hw1⟩ : ∃ w1 : World, w1 = wr.alloc (.cells #[Value.string ⟨#[]⟩, Value.pointer none, Value.bool false, Value.int .i64 0, Value.bool false, Value.string ⟨#[]⟩, Value.int .i64 0, Value.string ⟨#[]⟩, Value.int .u64 0, Value.int .i64 0, Value.string ⟨#[]⟩] 41) := ⟨_, rfl⟩
      have hat1 : Rec.zero.At w1 wr.heap.size := by rw [hw1]; exact Rec.At.new wr
      have hb1 : Below wr.heap.size wr w1 := by rw [hw1]; exact (Below.refl _ _).alloc (Nat.le_refl _) _
      rw [← hw1]
      clear hw1
      obtain rfl : aF = some ⟨bF, oF, none⟩ := HF.out.1 (by omega)
      have hbw1 : Below w.heap.size w w1 := HBW.out.trans (hb1.mono HBW.out.size)
      have r1 : w1.cell? ⟨bF, oF + k, none⟩ = some (.string (Ev k)) := cell_later hbw1 (HF.out.2.2 k hlt)
      have s1 := World.rowIs.cell hat1 (i := 5) (by omega)
      have f1 := World.rowIs.frozen hat1 5
      have HAT : Hid (({ Rec.zero with ev := Ev k } : Rec).At (w1.setCell ⟨wr.heap.size, 5, none⟩ (.string (Ev k))) wr.heap.size) := hat1.set_ev _
      have HBE : Hid (Below wr.heap.size wr (w1.setCell ⟨wr.heap.size, 5, none⟩ (.string (Ev k)))) := hb1.setCell (by simp) _
      clear hat1 hb1 hbw1
      go_upto_if 44 with fail
      clear r1 s1 f1
      generalize w1.setCell ⟨wr.heap.size, 5, none⟩ (.string (Ev k)) = wa at *
      go_cut [] from 44 to 49 (fun w' => Hid ((({ Rec.zero with ev := Ev k } : Rec).fA k nA T).At w' wr.heap.size) ∧ Hid (Below wr.heap.size wr w'))
      case first =>
        by_cases hc : k < nA
        · obtain rfl : aA = some ⟨bA, oA, none⟩ := HA.out.1 (by omega)
          have i2 : (k : Int) < (nA : Int) := by omega
          have r1 : wa.cell? ⟨bA, oA + k, none⟩ = some (.string (T k)) := cell_later (HBW.out.trans (HBE.out.mono HBW.out.size)) (HA.out.2.2 k hc)
          have s1 := World.rowIs.cell HAT.out (i := 0) (by omega)
          have f1 := World.rowIs.frozen HAT.out 0
          go_wp2_with fail
          go_meet
          case rel =>
            refine ⟨?_, HBE.out.setCell (by simp) _⟩
            show ((({ Rec.zero with ev := Ev k } : Rec).fA k nA T)).At _ _
            rw [Rec.fA_yes _ _ _ _ hc]
            exact HAT.out.set_task _
        · have i2 : ¬ (k : Int) < (nA : Int) := by omega
          go_wp2_with fail
          go_meet
          case rel =>
            refine ⟨?_, HBE⟩
            show ((({ Rec.zero with ev := Ev k } : Rec).fA k nA T)).At _ _
            rw [Rec.fA_no _ _ _ _ hc]
            exact HAT.out
      case rest =>
        clear HAT HBE
        obtain ⟨HAT, HBE⟩ := hcut
        obtain ⟨wa, hwa⟩ : ∃ wa, wa = wc := ⟨_, rfl⟩
        rw [← hwa] at HAT HBE ⊢
        clear hwa
        go_upto_if 53 with fail
        go_cut [] from 53 to 58 (fun w' => Hid (((({ Rec.zero with ev := Ev k } : Rec).fA k nA T).fB k nB P).At w' wr.heap.size) ∧ Hid (Below wr.heap.size wr w'))
        case first =>
          by_cases hc : k < nB
          · obtain rfl : aB = some ⟨bB, oB, none⟩ := HB.out.1 (by omega)
            have i2 : (k : Int) < (nB : Int) := by omega
            have r1 : wa.cell? ⟨bB, oB + k, none⟩ = some (.pointer (P k)) := cell_later (HBW.out.trans (HBE.out.mono HBW.out.size)) (HB.out.2.2 k hc)
            have s1 := World.rowIs.cell HAT.out (i := 1) (by omega)
            have f1 := World.rowIs.frozen HAT.out 1
            go_wp2_with fail
            go_meet
            case rel =>
              refine ⟨?_, HBE.out.setCell (by simp) _⟩
              show (((({ Rec.zero with ev := Ev k } : Rec).fA k nA T).fB k nB P)).At _ _
              rw [Rec.fB_yes _ _ _ _ hc]
              exact HAT.out.set_gate _
          · have i2 : ¬ (k : Int) < (nB : Int) := by omega
            go_wp2_with fail
            go_meet
            case rel =>
              refine ⟨?_, HBE⟩
              show (((({ Rec.zero with ev := Ev k } : Rec).fA k nA T).fB k nB P)).At _ _
              rw [Rec.fB_no _ _ _ _ hc]
              exact HAT.out
        case rest =>
          clear HAT HBE
          obtain ⟨HAT, HBE⟩ := hcut
          obtain ⟨wa, hwa⟩ : ∃ wa, wa = wc := ⟨_, rfl⟩
          rw [← hwa] at HAT HBE ⊢
          clear hwa
          go_upto_if 62 with fail
          go_cut [] from 62 to 67 (fun w' => Hid ((((({ Rec.zero with ev := Ev k } : Rec).fA k nA T).fB k nB P).fC k nC Di).At w' wr.heap.size) ∧ Hid (Below wr.heap.size wr w'))
          case first =>
            by_cases hc : k < nC
            · obtain rfl : aC = some ⟨bC, oC, none⟩ := HC.out.1 (by omega)
              have i2 : (k : Int) < (nC : Int) := by omega
              have r1 : wa.cell? ⟨bC, oC + k, none⟩ = some (.bool (Di k)) := cell_later (HBW.out.trans (HBE.out.mono HBW.out.size)) (HC.out.2.2 k hc)
              have s1 := World.rowIs.cell HAT.out (i := 2) (by omega)
              have f1 := World.rowIs.frozen HAT.out 2
              go_wp2_with fail
              go_meet
              case rel =>
                refine ⟨?_, HBE.out.setCell (by simp) _⟩
                show ((((({ Rec.zero with ev := Ev k } : Rec).fA k nA T).fB k nB P).fC k nC Di)).At _ _
                rw [Rec.fC_yes _ _ _ _ hc]
                exact HAT.out.set_disp _
            · have i2 : ¬ (k : Int) < (nC : Int) := by omega
              go_wp2_with fail
              go_meet
              case rel =>
                refine ⟨?_, HBE⟩
                show ((((({ Rec.zero with ev := Ev k } : Rec).fA k nA T).fB k nB P).fC k nC Di)).At _ _
                rw [Rec.fC_no _ _ _ _ hc]
                exact HAT.out
          case rest =>
            clear HAT HBE
            obtain ⟨HAT, HBE⟩ := hcut
            obtain ⟨wa, hwa⟩ : ∃ wa, wa = wc := ⟨_, rfl⟩
            rw [← hwa] at HAT HBE ⊢
            clear hwa
            go_upto_if 71 with fail
            go_cut [] from 71 to 76 (fun w' => Hid (((((({ Rec.zero with ev := Ev k } : Rec).fA k nA T).fB k nB P).fC k nC Di).fD k nD At).At w' wr.heap.size) ∧ Hid (Below wr.heap.size wr w'))
            case first =>
              by_cases hc : k < nD
              · obtain rfl : aD = some ⟨bD, oD, none⟩ := HD.out.1 (by omega)
                have i2 : (k : Int) < (nD : Int) := by omega
                have r1 : wa.cell? ⟨bD, oD + k, none⟩ = some (.int .i64 (At k)) := cell_later (HBW.out.trans (HBE.out.mono HBW.out.size)) (HD.out.2.2 k hc)
                have s1 := World.rowIs.cell HAT.out (i := 3) (by omega)
                have f1 := World.rowIs.frozen HAT.out 3
                go_wp2_with fail
                go_meet
                case rel =>
                  refine ⟨?_, HBE.out.setCell (by simp) _⟩
                  show (((((({ Rec.zero with ev := Ev k } : Rec).fA k nA T).fB k nB P).fC k nC Di).fD k nD At)).At _ _
                  rw [Rec.fD_yes _ _ _ _ hc]
                  exact HAT.out.set_att _
              · have i2 : ¬ (k : Int) < (nD : Int) := by omega
                go_wp2_with fail
                go_meet
                case rel =>
                  refine ⟨?_, HBE⟩
                  show (((((({ Rec.zero with ev := Ev k } : Rec).fA k nA T).fB k nB P).fC k nC Di).fD k nD At)).At _ _
                  rw [Rec.fD_no _ _ _ _ hc]
                  exact HAT.out
            case rest =>
              clear HAT HBE
              obtain ⟨HAT, HBE⟩ := hcut
              obtain ⟨wa, hwa⟩ : ∃ wa, wa = wc := ⟨_, rfl⟩
              rw [← hwa] at HAT HBE ⊢
              clear hwa
              go_upto_if 80 with fail
              go_cut [] from 80 to 85 (fun w' => Hid ((((((({ Rec.zero with ev := Ev k } : Rec).fA k nA T).fB k nB P).fC k nC Di).fD k nD At).fE k nE Ve).At w' wr.heap.size) ∧ Hid (Below wr.heap.size wr w'))
              case first =>
                by_cases hc : k < nE
                · obtain rfl : aE = some ⟨bE, oE, none⟩ := HE.out.1 (by omega)
                  have i2 : (k : Int) < (nE : Int) := by omega
                  have r1 : wa.cell? ⟨bE, oE + k, none⟩ = some (.bool (Ve k)) := cell_later (HBW.out.trans (HBE.out.mono HBW.out.size)) (HE.out.2.2 k hc)
                  have s1 := World.rowIs.cell HAT.out (i := 4) (by omega)
                  have f1 := World.rowIs.frozen HAT.out 4
                  go_wp2_with fail
                  go_meet
                  case rel =>
                    refine ⟨?_, HBE.out.setCell (by simp) _⟩
                    show ((((((({ Rec.zero with ev := Ev k } : Rec).fA k nA T).fB k nB P).fC k nC Di).fD k nD At).fE k nE Ve)).At _ _
                    rw [Rec.fE_yes _ _ _ _ hc]
                    exact HAT.out.set_ver _
                · have i2 : ¬ (k : Int) < (nE : Int) := by omega
                  go_wp2_with fail
                  go_meet
                  case rel =>
                    refine ⟨?_, HBE⟩
                    show ((((((({ Rec.zero with ev := Ev k } : Rec).fA k nA T).fB k nB P).fC k nC Di).fD k nD At).fE k nE Ve)).At _ _
                    rw [Rec.fE_no _ _ _ _ hc]
                    exact HAT.out
              case rest =>
                clear HAT HBE
                obtain ⟨HAT, HBE⟩ := hcut
                obtain ⟨wa, hwa⟩ : ∃ wa, wa = wc := ⟨_, rfl⟩
                rw [← hwa] at HAT HBE ⊢
                clear hwa
                go_upto_if 89 with fail
                go_cut [] from 89 to 95 (fun w' => Hid (((((((({ Rec.zero with ev := Ev k } : Rec).fA k nA T).fB k nB P).fC k nC Di).fD k nD At).fE k nE Ve).fG k nG Pi).At w' wr.heap.size) ∧ Hid (Below wr.heap.size wr w'))
                case first =>
                  by_cases hc : k < nG
                  · obtain rfl : aG = some ⟨bG, oG, none⟩ := HG.out.1 (by omega)
                    have i2 : (k : Int) < (nG : Int) := by omega
                    have r1 : wa.cell? ⟨bG, oG + k, none⟩ = some (.int .i64 (Pi k)) := cell_later (HBW.out.trans (HBE.out.mono HBW.out.size)) (HG.out.2.2 k hc)
                    have s1 := World.rowIs.cell HAT.out (i := 6) (by omega)
                    have f1 := World.rowIs.frozen HAT.out 6
                    go_wp2_with fail
                    go_meet
                    case rel =>
                      refine ⟨?_, HBE.out.setCell (by simp) _⟩
                      show (((((((({ Rec.zero with ev := Ev k } : Rec).fA k nA T).fB k nB P).fC k nC Di).fD k nD At).fE k nE Ve).fG k nG Pi)).At _ _
                      rw [Rec.fG_yes _ _ _ _ hc]
                      exact HAT.out.set_pid _
                  · have i2 : ¬ (k : Int) < (nG : Int) := by omega
                    go_wp2_with fail
                    go_meet
                    case rel =>
                      refine ⟨?_, HBE⟩
                      show (((((((({ Rec.zero with ev := Ev k } : Rec).fA k nA T).fB k nB P).fC k nC Di).fD k nD At).fE k nE Ve).fG k nG Pi)).At _ _
                      rw [Rec.fG_no _ _ _ _ hc]
                      exact HAT.out
                case rest =>
                  clear HAT HBE
                  obtain ⟨HAT, HBE⟩ := hcut
                  obtain ⟨wa, hwa⟩ : ∃ wa, wa = wc := ⟨_, rfl⟩
                  rw [← hwa] at HAT HBE ⊢
                  clear hwa
                  go_upto_if 99 with fail
                  go_cut [] from 99 to 105 (fun w' => Hid ((((((((({ Rec.zero with ev := Ev k } : Rec).fA k nA T).fB k nB P).fC k nC Di).fD k nD At).fE k nE Ve).fG k nG Pi).fI k nI Bo).At w' wr.heap.size) ∧ Hid (Below wr.heap.size wr w'))
                  case first =>
                    by_cases hc : k < nI
                    · obtain rfl : aI = some ⟨bI, oI, none⟩ := HI.out.1 (by omega)
                      have i2 : (k : Int) < (nI : Int) := by omega
                      have r1 : wa.cell? ⟨bI, oI + k, none⟩ = some (.string (Bo k)) := cell_later (HBW.out.trans (HBE.out.mono HBW.out.size)) (HI.out.2.2 k hc)
                      have s1 := World.rowIs.cell HAT.out (i := 7) (by omega)
                      have f1 := World.rowIs.frozen HAT.out 7
                      go_wp2_with fail
                      go_meet
                      case rel =>
                        refine ⟨?_, HBE.out.setCell (by simp) _⟩
                        show ((((((((({ Rec.zero with ev := Ev k } : Rec).fA k nA T).fB k nB P).fC k nC Di).fD k nD At).fE k nE Ve).fG k nG Pi).fI k nI Bo)).At _ _
                        rw [Rec.fI_yes _ _ _ _ hc]
                        exact HAT.out.set_boot _
                    · have i2 : ¬ (k : Int) < (nI : Int) := by omega
                      go_wp2_with fail
                      go_meet
                      case rel =>
                        refine ⟨?_, HBE⟩
                        show ((((((((({ Rec.zero with ev := Ev k } : Rec).fA k nA T).fB k nB P).fC k nC Di).fD k nD At).fE k nE Ve).fG k nG Pi).fI k nI Bo)).At _ _
                        rw [Rec.fI_no _ _ _ _ hc]
                        exact HAT.out
                  case rest =>
                    clear HAT HBE
                    obtain ⟨HAT, HBE⟩ := hcut
                    obtain ⟨wa, hwa⟩ : ∃ wa, wa = wc := ⟨_, rfl⟩
                    rw [← hwa] at HAT HBE ⊢
                    clear hwa
                    go_upto_if 109 with fail
                    go_cut [] from 109 to 115 (fun w' => Hid (((((((((({ Rec.zero with ev := Ev k } : Rec).fA k nA T).fB k nB P).fC k nC Di).fD k nD At).fE k nE Ve).fG k nG Pi).fI k nI Bo).fJ k nJ Sta).At w' wr.heap.size) ∧ Hid (Below wr.heap.size wr w'))
                    case first =>
                      by_cases hc : k < nJ
                      · obtain rfl : aJ = some ⟨bJ, oJ, none⟩ := HJ.out.1 (by omega)
                        have i2 : (k : Int) < (nJ : Int) := by omega
                        have r1 : wa.cell? ⟨bJ, oJ + k, none⟩ = some (.int .u64 (Sta k)) := cell_later (HBW.out.trans (HBE.out.mono HBW.out.size)) (HJ.out.2.2 k hc)
                        have s1 := World.rowIs.cell HAT.out (i := 8) (by omega)
                        have f1 := World.rowIs.frozen HAT.out 8
                        go_wp2_with fail
                        go_meet
                        case rel =>
                          refine ⟨?_, HBE.out.setCell (by simp) _⟩
                          show (((((((((({ Rec.zero with ev := Ev k } : Rec).fA k nA T).fB k nB P).fC k nC Di).fD k nD At).fE k nE Ve).fG k nG Pi).fI k nI Bo).fJ k nJ Sta)).At _ _
                          rw [Rec.fJ_yes _ _ _ _ hc]
                          exact HAT.out.set_start _
                      · have i2 : ¬ (k : Int) < (nJ : Int) := by omega
                        go_wp2_with fail
                        go_meet
                        case rel =>
                          refine ⟨?_, HBE⟩
                          show (((((((((({ Rec.zero with ev := Ev k } : Rec).fA k nA T).fB k nB P).fC k nC Di).fD k nD At).fE k nE Ve).fG k nG Pi).fI k nI Bo).fJ k nJ Sta)).At _ _
                          rw [Rec.fJ_no _ _ _ _ hc]
                          exact HAT.out
                    case rest =>
                      clear HAT HBE
                      obtain ⟨HAT, HBE⟩ := hcut
                      obtain ⟨wa, hwa⟩ : ∃ wa, wa = wc := ⟨_, rfl⟩
                      rw [← hwa] at HAT HBE ⊢
                      clear hwa
                      go_upto_if 119 with fail
                      go_cut [] from 119 to 125 (fun w' => Hid ((((((((((({ Rec.zero with ev := Ev k } : Rec).fA k nA T).fB k nB P).fC k nC Di).fD k nD At).fE k nE Ve).fG k nG Pi).fI k nI Bo).fJ k nJ Sta).fK k nK Se).At w' wr.heap.size) ∧ Hid (Below wr.heap.size wr w'))
                      case first =>
                        by_cases hc : k < nK
                        · obtain rfl : aK = some ⟨bK, oK, none⟩ := HK.out.1 (by omega)
                          have i2 : (k : Int) < (nK : Int) := by omega
                          have r1 : wa.cell? ⟨bK, oK + k, none⟩ = some (.int .i64 (Se k)) := cell_later (HBW.out.trans (HBE.out.mono HBW.out.size)) (HK.out.2.2 k hc)
                          have s1 := World.rowIs.cell HAT.out (i := 9) (by omega)
                          have f1 := World.rowIs.frozen HAT.out 9
                          go_wp2_with fail
                          go_meet
                          case rel =>
                            refine ⟨?_, HBE.out.setCell (by simp) _⟩
                            show ((((((((((({ Rec.zero with ev := Ev k } : Rec).fA k nA T).fB k nB P).fC k nC Di).fD k nD At).fE k nE Ve).fG k nG Pi).fI k nI Bo).fJ k nJ Sta).fK k nK Se)).At _ _
                            rw [Rec.fK_yes _ _ _ _ hc]
                            exact HAT.out.set_sess _
                        · have i2 : ¬ (k : Int) < (nK : Int) := by omega
                          go_wp2_with fail
                          go_meet
                          case rel =>
                            refine ⟨?_, HBE⟩
                            show ((((((((((({ Rec.zero with ev := Ev k } : Rec).fA k nA T).fB k nB P).fC k nC Di).fD k nD At).fE k nE Ve).fG k nG Pi).fI k nI Bo).fJ k nJ Sta).fK k nK Se)).At _ _
                            rw [Rec.fK_no _ _ _ _ hc]
                            exact HAT.out
                      case rest =>
                        clear HAT HBE
                        obtain ⟨HAT, HBE⟩ := hcut
                        obtain ⟨wa, hwa⟩ : ∃ wa, wa = wc := ⟨_, rfl⟩
                        rw [← hwa] at HAT HBE ⊢
                        clear hwa
                        go_upto_if 129 with fail
                        go_cut [] from 129 to 134 (fun w' => Hid (((((((((((({ Rec.zero with ev := Ev k } : Rec).fA k nA T).fB k nB P).fC k nC Di).fD k nD At).fE k nE Ve).fG k nG Pi).fI k nI Bo).fJ k nJ Sta).fK k nK Se).fL k nL Re).At w' wr.heap.size) ∧ Hid (Below wr.heap.size wr w'))
                        case first =>
                          by_cases hc : k < nL
                          · obtain rfl : aL = some ⟨bL, oL, none⟩ := HL.out.1 (by omega)
                            have i2 : (k : Int) < (nL : Int) := by omega
                            have r1 : wa.cell? ⟨bL, oL + k, none⟩ = some (.string (Re k)) := cell_later (HBW.out.trans (HBE.out.mono HBW.out.size)) (HL.out.2.2 k hc)
                            have s1 := World.rowIs.cell HAT.out (i := 10) (by omega)
                            have f1 := World.rowIs.frozen HAT.out 10
                            go_wp2_with fail
                            go_meet
                            case rel =>
                              refine ⟨?_, HBE.out.setCell (by simp) _⟩
                              show (((((((((((({ Rec.zero with ev := Ev k } : Rec).fA k nA T).fB k nB P).fC k nC Di).fD k nD At).fE k nE Ve).fG k nG Pi).fI k nI Bo).fJ k nJ Sta).fK k nK Se).fL k nL Re)).At _ _
                              rw [Rec.fL_yes _ _ _ _ hc]
                              exact HAT.out.set_reason _
                          · have i2 : ¬ (k : Int) < (nL : Int) := by omega
                            go_wp2_with fail
                            go_meet
                            case rel =>
                              refine ⟨?_, HBE⟩
                              show (((((((((((({ Rec.zero with ev := Ev k } : Rec).fA k nA T).fB k nB P).fC k nC Di).fD k nD At).fE k nE Ve).fG k nG Pi).fI k nI Bo).fJ k nJ Sta).fK k nK Se).fL k nL Re)).At _ _
                              rw [Rec.fL_no _ _ _ _ hc]
                              exact HAT.out
                        case rest =>
                          clear HAT HBE
                          obtain ⟨HAT, HBE⟩ := hcut
                          obtain ⟨wa, hwa⟩ : ∃ wa, wa = wc := ⟨_, rfl⟩
                          rw [← hwa] at HAT HBE ⊢
                          clear hwa
                          go_upto_region 28 with fail
                          rw [HRC.out k] at HAT
                          have HROW : Hid (wa.rowIs w.heap.size 41 (nF * 11) (recCell rc k)) := HO.out.of_block (HBE.out.block _ hwl)
                          have HST : Hid _ := recCell_step rc wa w.heap.size nF k HROW.out
                          have hR : wa.rangeAt wr.heap.size 0 (rc k).cells := by
                            intro j v hv
                            have hj : j < 11 := by
                              have := (List.getElem?_eq_some_iff.1 hv).1
                              rwa [Rec.len] at this
                            rw [Nat.zero_add, World.rowIs.cell HAT.out (i := j) hj, List.getD_eq_getElem?_getD, hv]
                            rfl
                          have hT : wa.there w.heap.size (k * 11) (rc k).cells.toArray.size := by
                            intro j hj
                            have hj' : j < 11 := by simpa [Rec.len] using hj
                            refine ⟨?_, HROW.out.frozen _⟩
                            rw [HROW.out.cell (i := k * 11 + j) (by omega)]
                            rfl
                          have hsz1 : (Try.prog.info? 41).map (·.size) = some (rc k).cells.length := by rw [Rec.len]; exact size41
                          have hsz2 : (Try.prog.info? 41).map (·.size) = some (rc k).cells.toArray.size := by rw [List.size_toArray, Rec.len]; exact size41
                          have hone := all_oneCell_toArray (rc k).one
                          obtain ⟨HR1, HT1, HZ1, HZ2, HN1⟩ : Hid (wa.rangeAt wr.heap.size 0 (rc k).cells) ∧ Hid (wa.there w.heap.size (k * 11) (rc k).cells.toArray.size) ∧ Hid ((Try.prog.info? 41).map (·.size) = some (rc k).cells.length) ∧ Hid ((Try.prog.info? 41).map (·.size) = some (rc k).cells.toArray.size) ∧ Hid ((rc k).cells.toArray.all (·.oneCell') = true) := ⟨hR, hT, hsz1, hsz2, hone⟩
                          have hlr : wr.heap.size < wa.heap.size := World.rowIs.lt HAT.out
                          clear hR hT HAT HROW hsz1 hsz2 hone
                          have HFIN : Hid (Below w.heap.size w (wa.setCells w.heap.size (k * 11) (rc k).cells)) := (HBW.out.trans (HBE.out.mono HBW.out.size)).trans (below_setCells _ _ _ _ _ (Nat.le_refl _))
                          generalize (rc k).cells = cs at *
                          go_wp2_with (first | (refine wpList_load_mid rfl 41 _ rfl wr.heap.size 0 rfl cs _ HR1.out Try.underlying41 rfl HZ1.out ?_) | (refine wpList_store_mid rfl 41 _ _ rfl w.heap.size (k * 11) cs.toArray rfl rfl HT1.out HZ2.out HN1.out ?_))
                          go_roundw
                          case rel => exact ⟨k + 1, by omega, by go_num, HST, HFIN⟩
                          case measure => simp [intOf]; omega
    · obtain rfl : k = nF := by omega
      go_wp2_with fail
      go_ret
      exact ⟨rfl, HO.out, HBW.out⟩
end Go.Proofs.Qxb6605248a

