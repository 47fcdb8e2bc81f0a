/- The bound on lengths, walked. -/
import Derived.Test.Qxb6605248aBy6
set_option linter.unusedVariables false
namespace Go.Proofs.Qxb6605248a
open Go.RowKit

/-- small strings -/
def bytes8_small (nA nF nI nL : Nat) (TA TF TI TL : Nat → ByteArray) : Prop := (∀ j, j < nA → (TA j).size ≤ 1048576) ∧ (∀ j, j < nF → (TF j).size ≤ 1048576) ∧ (∀ j, j < nI → (TI j).size ≤ 1048576) ∧ (∀ j, j < nL → (TL j).size ≤ 1048576)
set_option maxRecDepth 4000 in
set_option maxHeartbeats 4000000 in
theorem bytes8 (aA : Option Addr) (nA cA bA oA : Nat) (TA : Nat → ByteArray) (aB : Option Addr) (nB cB : Nat) (aC : Option Addr) (nC cC : Nat) (aD : Option Addr) (nD cD : Nat) (aE : Option Addr) (nE cE : Nat) (aF : Option Addr) (nF cF bF oF : Nat) (TF : Nat → ByteArray) (aG : Option Addr) (nG cG : Nat) (aI : Option Addr) (nI cI bI oI : Nat) (TI : Nat → ByteArray) (aJ : Option Addr) (nJ cJ : Nat) (aK : Option Addr) (nK cK : Nat) (aL : Option Addr) (nL cL bL oL : Nat) (TL : Nat → ByteArray) (w : World) (hA : Row w aA nA bA oA (fun j => .string (TA j))) (hF : Row w aF nF bF oF (fun j => .string (TF j))) (hI : Row w aI nI bI oI (fun j => .string (TI j))) (hL : Row w aL nL bL oL (fun j => .string (TL j))) :
    Calls Try.prog 8 #[.slice aA nA cA, .slice aB nB cB, .slice aC nC cC, .slice aD nD cD, .slice aE nE cE, .slice aF nF cF, .slice aG nG cG, .slice aI nI cI, .slice aJ nJ cJ, .slice aK nK cK, .slice aL nL cL] w (RetP (bytes8_small nA nF nI nL TA TF TI TL) w) := by
  have HA : Hid (Row w aA nA bA oA (fun j => .string (TA j))) := hA
  have HF : Hid (Row w aF nF bF oF (fun j => .string (TF j))) := hF
  have HI : Hid (Row w aI nI bI oI (fun j => .string (TI j))) := hI
  have HL : Hid (Row w aL nL bL oL (fun j => .string (TL j))) := hL
  clear hA hF hI hL
  go_enter Try.func8, Try.ntmps8
  go_wp2_with fail
  any_goals (go_ret; exact RetP.no _ _)
  go_loopw [23, 24] (fun zz i wr => ∃ k : Nat, ∃ t : Nat, k ≤ nA ∧ i = .int .i64 k ∧ zz = .int .i64 t ∧ t ≤ 1048576 ∧ Hid (∀ j, j < k → (TA j).size ≤ 1048576) ∧ wr = w) (fun _ i _ => nA - (intOf i).toNat)
  case atStart => exact ⟨0, nA, Nat.zero_le _, rfl, by go_num, by omega, fun j hj => by omega, by first | rfl | trivial⟩
  case round =>
    obtain ⟨kA, tA, hkA, rfl, rfl, htA, HVA, hw⟩ := hrel
    obtain rfl := hw.symm
    clear hw
    by_cases hltA : kA < nA
    · obtain rfl : aA = some ⟨bA, oA, none⟩ := HA.out.1 (by omega)
      have r1 : w.cell? ⟨bA, oA + kA, none⟩ = some (.string (TA kA)) := HA.out.2.2 kA hltA
      have i0 : (0 : Int) ≤ (kA : Int) := by omega
      have i1 : (kA : Int) < (nA : Int) := by omega
      by_cases hv : (TA kA).size ≤ 1048576
      · by_cases hs : tA + (TA kA).size ≤ 1048576
        · have hs' : (tA : Int) + ((TA kA).size : Int) ≤ 1048576 := by omega
          have HV2 : Hid (∀ j, j < kA + 1 → (TA j).size ≤ 1048576) := fun j hj => by
            by_cases hjk : j < kA
            · exact HVA.out j hjk
            · obtain rfl : j = kA := by omega
              exact hv
          go_wp2_with fail
          go_roundw
          case rel => exact ⟨kA + 1, tA + (TA kA).size, by omega, by go_num, by go_num, hs, HV2, by first | rfl | trivial⟩
          case measure => simp [intOf]; omega
        · have hs' : ¬ (tA : Int) + ((TA kA).size : Int) ≤ 1048576 := by omega
          go_wp2_with fail
          go_ret
          exact RetP.no _ _
      · go_wp2_with fail
        go_ret
        exact RetP.no _ _
    · obtain rfl : kA = nA := by omega
      go_wp2_with fail
      any_goals (go_ret; exact RetP.no _ _)
      go_loopw [23, 25] (fun zz i wr => ∃ k : Nat, ∃ t : Nat, k ≤ nF ∧ i = .int .i64 k ∧ zz = .int .i64 t ∧ t ≤ 1048576 ∧ Hid (∀ j, j < k → (TF j).size ≤ 1048576) ∧ wr = w) (fun _ i _ => nF - (intOf i).toNat)
      case atStart => exact ⟨0, tA + nB + nC + nD + nE + nF, Nat.zero_le _, rfl, by go_num, by omega, fun j hj => by omega, by first | rfl | trivial⟩
      case round =>
        obtain ⟨kF, tF, hkF, rfl, rfl, htF, HVF, hw⟩ := hrel
        obtain rfl := hw.symm
        clear hw
        by_cases hltF : kF < nF
        · obtain rfl : aF = some ⟨bF, oF, none⟩ := HF.out.1 (by omega)
          have r1 : w.cell? ⟨bF, oF + kF, none⟩ = some (.string (TF kF)) := HF.out.2.2 kF hltF
          have i0 : (0 : Int) ≤ (kF : Int) := by omega
          have i1 : (kF : Int) < (nF : Int) := by omega
          by_cases hv : (TF kF).size ≤ 1048576
          · by_cases hs : tF + (TF kF).size ≤ 1048576
            · have hs' : (tF : Int) + ((TF kF).size : Int) ≤ 1048576 := by omega
              have HV2 : Hid (∀ j, j < kF + 1 → (TF j).size ≤ 1048576) := fun j hj => by
                by_cases hjk : j < kF
                · exact HVF.out j hjk
                · obtain rfl : j = kF := by omega
                  exact hv
              go_wp2_with fail
              go_roundw
              case rel => exact ⟨kF + 1, tF + (TF kF).size, by omega, by go_num, by go_num, hs, HV2, by first | rfl | trivial⟩
              case measure => simp [intOf]; omega
            · have hs' : ¬ (tF : Int) + ((TF kF).size : Int) ≤ 1048576 := by omega
              go_wp2_with fail
              go_ret
              exact RetP.no _ _
          · go_wp2_with fail
            go_ret
            exact RetP.no _ _
        · obtain rfl : kF = nF := by omega
          go_wp2_with fail
          any_goals (go_ret; exact RetP.no _ _)
          go_loopw [23, 26] (fun zz i wr => ∃ k : Nat, ∃ t : Nat, k ≤ nI ∧ i = .int .i64 k ∧ zz = .int .i64 t ∧ t ≤ 1048576 ∧ Hid (∀ j, j < k → (TI j).size ≤ 1048576) ∧ wr = w) (fun _ i _ => nI - (intOf i).toNat)
          case atStart => exact ⟨0, tF + nG + nI, Nat.zero_le _, rfl, by go_num, by omega, fun j hj => by omega, by first | rfl | trivial⟩
          case round =>
            obtain ⟨kI, tI, hkI, rfl, rfl, htI, HVI, hw⟩ := hrel
            obtain rfl := hw.symm
            clear hw
            by_cases hltI : kI < nI
            · obtain rfl : aI = some ⟨bI, oI, none⟩ := HI.out.1 (by omega)
              have r1 : w.cell? ⟨bI, oI + kI, none⟩ = some (.string (TI kI)) := HI.out.2.2 kI hltI
              have i0 : (0 : Int) ≤ (kI : Int) := by omega
              have i1 : (kI : Int) < (nI : Int) := by omega
              by_cases hv : (TI kI).size ≤ 1048576
              · by_cases hs : tI + (TI kI).size ≤ 1048576
                · have hs' : (tI : Int) + ((TI kI).size : Int) ≤ 1048576 := by omega
                  have HV2 : Hid (∀ j, j < kI + 1 → (TI j).size ≤ 1048576) := fun j hj => by
                    by_cases hjk : j < kI
                    · exact HVI.out j hjk
                    · obtain rfl : j = kI := by omega
                      exact hv
                  go_wp2_with fail
                  go_roundw
                  case rel => exact ⟨kI + 1, tI + (TI kI).size, by omega, by go_num, by go_num, hs, HV2, by first | rfl | trivial⟩
                  case measure => simp [intOf]; omega
                · have hs' : ¬ (tI : Int) + ((TI kI).size : Int) ≤ 1048576 := by omega
                  go_wp2_with fail
                  go_ret
                  exact RetP.no _ _
              · go_wp2_with fail
                go_ret
                exact RetP.no _ _
            · obtain rfl : kI = nI := by omega
              go_wp2_with fail
              any_goals (go_ret; exact RetP.no _ _)
              go_loopw [23, 27] (fun zz i wr => ∃ k : Nat, ∃ t : Nat, k ≤ nL ∧ i = .int .i64 k ∧ zz = .int .i64 t ∧ t ≤ 1048576 ∧ Hid (∀ j, j < k → (TL j).size ≤ 1048576) ∧ wr = w) (fun _ i _ => nL - (intOf i).toNat)
              case atStart => exact ⟨0, tI + nJ + nK + nL, Nat.zero_le _, rfl, by go_num, by omega, fun j hj => by omega, by first | rfl | trivial⟩
              case round =>
                obtain ⟨kL, tL, hkL, rfl, rfl, htL, HVL, hw⟩ := hrel
                obtain rfl := hw.symm
                clear hw
                by_cases hltL : kL < nL
                · obtain rfl : aL = some ⟨bL, oL, none⟩ := HL.out.1 (by omega)
                  have r1 : w.cell? ⟨bL, oL + kL, none⟩ = some (.string (TL kL)) := HL.out.2.2 kL hltL
                  have i0 : (0 : Int) ≤ (kL : Int) := by omega
                  have i1 : (kL : Int) < (nL : Int) := by omega
                  by_cases hv : (TL kL).size ≤ 1048576
                  · by_cases hs : tL + (TL kL).size ≤ 1048576
                    · have hs' : (tL : Int) + ((TL kL).size : Int) ≤ 1048576 := by omega
                      have HV2 : Hid (∀ j, j < kL + 1 → (TL j).size ≤ 1048576) := fun j hj => by
                        by_cases hjk : j < kL
                        · exact HVL.out j hjk
                        · obtain rfl : j = kL := by omega
                          exact hv
                      go_wp2_with fail
                      go_roundw
                      case rel => exact ⟨kL + 1, tL + (TL kL).size, by omega, by go_num, by go_num, hs, HV2, by first | rfl | trivial⟩
                      case measure => simp [intOf]; omega
                    · have hs' : ¬ (tL : Int) + ((TL kL).size : Int) ≤ 1048576 := by omega
                      go_wp2_with fail
                      go_ret
                      exact RetP.no _ _
                  · go_wp2_with fail
                    go_ret
                    exact RetP.no _ _
                · obtain rfl : kL = nL := by omega
                  go_wp2_with fail
                  go_ret
                  exact RetP.yes _ _ ⟨HVA.out, HVF.out, HVI.out, HVL.out⟩
end Go.Proofs.Qxb6605248a
