/- The bound on lengths, walked. -/
import Derived.Test.Qxb6605248aBase
set_option linter.unusedVariables false
namespace Go.Proofs.Qxb6605248a
open Go.RowKit

/-- a bool; where it is true, P; the world as it was -/
def RetP (P : Prop) (w : World) (e : Ending) (w' : World) : Prop := ∃ p : Bool, e = .returned (.bool p) ∧ (p = true → P) ∧ w' = w
theorem RetP.no (P : Prop) (w : World) : RetP P w (.returned (.bool false)) w := ⟨false, rfl, fun h => by simp at h, rfl⟩
theorem RetP.yes (P : Prop) (w : World) (h : P) : RetP P w (.returned (.bool true)) w := ⟨true, rfl, fun _ => h, rfl⟩
/-- small strings -/
def bytes26_small (nB nC nE : Nat) (TB TC TE : Nat → ByteArray) : Prop := (∀ j, j < nB → (TB j).size ≤ 1048576) ∧ (∀ j, j < nC → (TC j).size ≤ 1048576) ∧ (∀ j, j < nE → (TE j).size ≤ 1048576)
set_option maxRecDepth 4000 in
set_option maxHeartbeats 4000000 in
theorem bytes26 (aA : Option Addr) (nA cA : Nat) (aB : Option Addr) (nB cB bB oB : Nat) (TB : Nat → ByteArray) (aC : Option Addr) (nC cC bC oC : Nat) (TC : Nat → ByteArray) (aD : Option Addr) (nD cD : Nat) (aE : Option Addr) (nE cE bE oE : Nat) (TE : Nat → ByteArray) (gg : Int) (w : World) (hB : Row w aB nB bB oB (fun j => .string (TB j))) (hC : Row w aC nC bC oC (fun j => .string (TC j))) (hE : Row w aE nE bE oE (fun j => .string (TE j))) :
    Calls Try.prog 26 #[.slice aA nA cA, .slice aB nB cB, .slice aC nC cC, .slice aD nD cD, .slice aE nE cE, .int .i64 gg] w (RetP (bytes26_small nB nC nE TB TC TE) w) := by
  have HB : Hid (Row w aB nB bB oB (fun j => .string (TB j))) := hB
  have HC : Hid (Row w aC nC bC oC (fun j => .string (TC j))) := hC
  have HE : Hid (Row w aE nE bE oE (fun j => .string (TE j))) := hE
  clear hB hC hE
  go_enter Try.func26, Try.ntmps26
  go_wp2_with fail
  any_goals (go_ret; exact RetP.no _ _)
  go_loopw [13, 14] (fun zz i wr => ∃ k : Nat, ∃ t : Nat, k ≤ nB ∧ i = .int .i64 k ∧ zz = .int .i64 t ∧ t ≤ 1048576 ∧ Hid (∀ j, j < k → (TB j).size ≤ 1048576) ∧ wr = w) (fun _ i _ => nB - (intOf i).toNat)
  case atStart => exact ⟨0, nA + nB, Nat.zero_le _, rfl, by go_num, by omega, fun j hj => by omega, by first | rfl | trivial⟩
  case round =>
    obtain ⟨kB, tB, hkB, rfl, rfl, htB, HVB, hw⟩ := hrel
    obtain rfl := hw.symm
    clear hw
    by_cases hltB : kB < nB
    · obtain rfl : aB = some ⟨bB, oB, none⟩ := HB.out.1 (by omega)
      have r1 : w.cell? ⟨bB, oB + kB, none⟩ = some (.string (TB kB)) := HB.out.2.2 kB hltB
      have i0 : (0 : Int) ≤ (kB : Int) := by omega
      have i1 : (kB : Int) < (nB : Int) := by omega
      by_cases hv : (TB kB).size ≤ 1048576
      · by_cases hs : tB + (TB kB).size ≤ 1048576
        · have hs' : (tB : Int) + ((TB kB).size : Int) ≤ 1048576 := by omega
          have HV2 : Hid (∀ j, j < kB + 1 → (TB j).size ≤ 1048576) := fun j hj => by
            by_cases hjk : j < kB
            · exact HVB.out j hjk
            · obtain rfl : j = kB := by omega
              exact hv
          go_wp2_with fail
          go_roundw
          case rel => exact ⟨kB + 1, tB + (TB kB).size, by omega, by go_num, by go_num, hs, HV2, by first | rfl | trivial⟩
          case measure => simp [intOf]; omega
        · have hs' : ¬ (tB : Int) + ((TB kB).size : Int) ≤ 1048576 := by omega
          go_wp2_with fail
          go_ret
          exact RetP.no _ _
      · go_wp2_with fail
        go_ret
        exact RetP.no _ _
    · obtain rfl : kB = nB := by omega
      go_wp2_with fail
      any_goals (go_ret; exact RetP.no _ _)
      go_loopw [13, 15] (fun zz i wr => ∃ k : Nat, ∃ t : Nat, k ≤ nC ∧ i = .int .i64 k ∧ zz = .int .i64 t ∧ t ≤ 1048576 ∧ Hid (∀ j, j < k → (TC j).size ≤ 1048576) ∧ wr = w) (fun _ i _ => nC - (intOf i).toNat)
      case atStart => exact ⟨0, tB + nC, Nat.zero_le _, rfl, by go_num, by omega, fun j hj => by omega, by first | rfl | trivial⟩
      case round =>
        obtain ⟨kC, tC, hkC, rfl, rfl, htC, HVC, hw⟩ := hrel
        obtain rfl := hw.symm
        clear hw
        by_cases hltC : kC < nC
        · obtain rfl : aC = some ⟨bC, oC, none⟩ := HC.out.1 (by omega)
          have r1 : w.cell? ⟨bC, oC + kC, none⟩ = some (.string (TC kC)) := HC.out.2.2 kC hltC
          have i0 : (0 : Int) ≤ (kC : Int) := by omega
          have i1 : (kC : Int) < (nC : Int) := by omega
          by_cases hv : (TC kC).size ≤ 1048576
          · by_cases hs : tC + (TC kC).size ≤ 1048576
            · have hs' : (tC : Int) + ((TC kC).size : Int) ≤ 1048576 := by omega
              have HV2 : Hid (∀ j, j < kC + 1 → (TC j).size ≤ 1048576) := fun j hj => by
                by_cases hjk : j < kC
                · exact HVC.out j hjk
                · obtain rfl : j = kC := by omega
                  exact hv
              go_wp2_with fail
              go_roundw
              case rel => exact ⟨kC + 1, tC + (TC kC).size, by omega, by go_num, by go_num, hs, HV2, by first | rfl | trivial⟩
              case measure => simp [intOf]; omega
            · have hs' : ¬ (tC : Int) + ((TC kC).size : Int) ≤ 1048576 := by omega
              go_wp2_with fail
              go_ret
              exact RetP.no _ _
          · go_wp2_with fail
            go_ret
            exact RetP.no _ _
        · obtain rfl : kC = nC := by omega
          go_wp2_with fail
          any_goals (go_ret; exact RetP.no _ _)
          go_loopw [13, 16] (fun zz i wr => ∃ k : Nat, ∃ t : Nat, k ≤ nE ∧ i = .int .i64 k ∧ zz = .int .i64 t ∧ t ≤ 1048576 ∧ Hid (∀ j, j < k → (TE j).size ≤ 1048576) ∧ wr = w) (fun _ i _ => nE - (intOf i).toNat)
          case atStart => exact ⟨0, tC + nD + nE, Nat.zero_le _, rfl, by go_num, by omega, fun j hj => by omega, by first | rfl | trivial⟩
          case round =>
            obtain ⟨kE, tE, hkE, rfl, rfl, htE, HVE, hw⟩ := hrel
            obtain rfl := hw.symm
            clear hw
            by_cases hltE : kE < nE
            · obtain rfl : aE = some ⟨bE, oE, none⟩ := HE.out.1 (by omega)
              have r1 : w.cell? ⟨bE, oE + kE, none⟩ = some (.string (TE kE)) := HE.out.2.2 kE hltE
              have i0 : (0 : Int) ≤ (kE : Int) := by omega
              have i1 : (kE : Int) < (nE : Int) := by omega
              by_cases hv : (TE kE).size ≤ 1048576
              · by_cases hs : tE + (TE kE).size ≤ 1048576
                · have hs' : (tE : Int) + ((TE kE).size : Int) ≤ 1048576 := by omega
                  have HV2 : Hid (∀ j, j < kE + 1 → (TE j).size ≤ 1048576) := fun j hj => by
                    by_cases hjk : j < kE
                    · exact HVE.out j hjk
                    · obtain rfl : j = kE := by omega
                      exact hv
                  go_wp2_with fail
                  go_roundw
                  case rel => exact ⟨kE + 1, tE + (TE kE).size, by omega, by go_num, by go_num, hs, HV2, by first | rfl | trivial⟩
                  case measure => simp [intOf]; omega
                · have hs' : ¬ (tE : Int) + ((TE kE).size : Int) ≤ 1048576 := by omega
                  go_wp2_with fail
                  go_ret
                  exact RetP.no _ _
              · go_wp2_with fail
                go_ret
                exact RetP.no _ _
            · obtain rfl : kE = nE := by omega
              go_wp2_with fail
              go_ret
              exact RetP.yes _ _ ⟨HVB.out, HVC.out, HVE.out⟩
end Go.Proofs.Qxb6605248a
