/- Leaf walks of the laws on States. -/
import Derived.Test.Qxb6605248aStC
import Derived.Test.Qxb6605248aBy16
set_option linter.unusedVariables false
namespace Go.Proofs.Qxb6605248a
open Go.RowKit Go.Maps

/-- the first record of a task, or -1 -/
def FirstAt (rc : Nat → Rec) (m : Nat) (id : ByteArray) (v : Int) : Prop := (∃ j : Nat, j < m ∧ v = j ∧ (rc j).task = id ∧ ∀ l, l < j → ¬ (rc l).task = id) ∨ (v = -1 ∧ ∀ l, l < m → ¬ (rc l).task = id)

set_option maxHeartbeats 1000000 in
theorem firstTask14 (rg m c : Nat) (rc : Nat → Rec) (id : ByteArray) (w : World) (hr : RecRow w rg m rc) (hm : m ≤ 4096) :
    Calls Try.prog 14 #[.slice (some ⟨rg, 0, none⟩) m c, .string id] w fun e w' => ∃ v : Int, e = .returned (.int .i64 v) ∧ FirstAt rc m id v ∧ w' = w := by
  have HR : Hid (RecRow w rg m rc) := hr
  clear hr
  go_enter Try.func14, Try.ntmps14
  go_wp2_with fail
  go_loopw [5] (fun i wr => ∃ k : Nat, k ≤ m ∧ i = .int .i64 k ∧ Hid (∀ l, l < k → ¬ (rc l).task = id) ∧ wr = w) (fun i _ => m - (intOf i).toNat)
  case atStart => exact ⟨0, Nat.zero_le _, rfl, fun l hl => by omega, rfl⟩
  case round =>
    obtain ⟨k, hk, rfl, HN, hw⟩ := hrel
    obtain rfl := hw.symm
    clear hw
    by_cases hlt : k < m
    · have c0 := (HR.out.cells k hlt).1
      have i0 : (0 : Int) ≤ (k : Int) := by omega
      have i1 : (k : Int) < (m : Int) := by omega
      by_cases he : (rc k).task = id
      · have HE : Hid ((rc k).task = id) := he
        rw [he] at c0
        go_wp2_with fail
        go_ret
        exact ⟨(k : Int), rfl, .inl ⟨k, hlt, rfl, HE.out, HN.out⟩, rfl⟩
      · have HN2 : Hid (∀ l, l < k + 1 → ¬ (rc l).task = id) := fun l hl => by
          by_cases h : l < k
          · exact HN.out l h
          · obtain rfl : l = k := by omega
            exact he
        have e1 : ((rc k).task.toList == id.toList) = false := str_same _ _ he
        go_wp2_with fail
        go_roundw
        case rel => exact ⟨k + 1, by omega, by go_num, HN2, by first | rfl | trivial⟩
        case measure => simp [intOf]; omega
    · obtain rfl : k = m := by omega
      go_wp2_with fail
      go_ret
      exact ⟨-1, rfl, .inr ⟨rfl, HN.out⟩, rfl⟩

/-- the last start of a dispatch among the first k, or -1 -/
def lastD (rc : Nat → Rec) : Nat → Int
  | 0 => -1
  | k + 1 => if (rc k).isStart = true then (k : Int) else lastD rc k
theorem lastD_le (rc : Nat → Rec) (k : Nat) : -1 ≤ lastD rc k ∧ lastD rc k < k := by
  induction k with
  | zero => simp [lastD]
  | succ k ih =>
    unfold lastD
    split <;> omega

set_option maxHeartbeats 1000000 in
theorem lastStart13 (rg m c : Nat) (rc : Nat → Rec) (w : World) (hr : RecRow w rg m rc) (hm : m ≤ 4096) :
    Calls Try.prog 13 #[.slice (some ⟨rg, 0, none⟩) m c] w fun e w' => e = .returned (.int .i64 (lastD rc m)) ∧ w' = w := by
  have HR : Hid (RecRow w rg m rc) := hr
  clear hr
  go_enter Try.func13, Try.ntmps13
  go_wp2_with fail
  go_loopw [3, 4] (fun d i wr => ∃ k : Nat, k ≤ m ∧ i = .int .i64 k ∧ d = .int .i64 (lastD rc k) ∧ wr = w) (fun _ i _ => m - (intOf i).toNat)
  case atStart => exact ⟨0, Nat.zero_le _, rfl, rfl, rfl⟩
  case round =>
    obtain ⟨k, hk, rfl, rfl, hw⟩ := hrel
    obtain rfl := hw.symm
    clear hw
    by_cases hlt : k < m
    · obtain ⟨-, -, c2, -, -, c5, -⟩ := HR.out.cells k hlt
      have i0 : (0 : Int) ≤ (k : Int) := by omega
      have i1 : (k : Int) < (m : Int) := by omega
      have HL : Hid (lastD rc (k + 1) = if (rc k).isStart = true then (k : Int) else lastD rc k) := rfl
      by_cases hd : (rc k).disp = true
      · rw [hd] at c2
        by_cases he : (rc k).ev = startS
        · have HE : Hid (lastD rc (k + 1) = (k : Int)) := HL.out.trans (if_pos (by simp [Rec.isStart, hd, he]))
          rw [he] at c5
          unfold startS at c5
          clear hd he HL
          go_wp2_with fail
          go_roundw
          case rel => exact ⟨k + 1, by omega, by go_num, by rw [HE.out], by first | rfl | trivial⟩
          case measure => simp [intOf]; omega
        · have HE : Hid (lastD rc (k + 1) = lastD rc k) := HL.out.trans (if_neg (by simp [Rec.isStart, he]))
          have e1 : ((rc k).ev.toList == [115, 116, 97, 114, 116, 101, 100]) = false := str_ne _ _ he
          clear hd he HL
          go_wp2_with fail
          go_roundw
          case rel => exact ⟨k + 1, by omega, by go_num, by rw [HE.out], by first | rfl | trivial⟩
          case measure => simp [intOf]; omega
      · have HE : Hid (lastD rc (k + 1) = lastD rc k) := HL.out.trans (if_neg (by simp [Rec.isStart, hd]))
        have e2 : (rc k).disp = false := by simpa using hd
        rw [e2] at c2
        clear hd e2 HL
        go_wp2_with fail
        go_roundw
        case rel => exact ⟨k + 1, by omega, by go_num, by rw [HE.out], by first | rfl | trivial⟩
        case measure => simp [intOf]; omega
    · obtain rfl : k = m := by omega
      go_wp2_with fail
      go_ret
      exact ⟨rfl, rfl⟩

set_option maxHeartbeats 2000000 in
theorem recBytes9 (r : Recs) (w : World) (h : r.In w) (hl : r.A.n ≤ 4096 ∧ r.B.n ≤ 4096 ∧ r.C.n ≤ 4096 ∧ r.D.n ≤ 4096 ∧ r.E.n ≤ 4096 ∧ r.F.n ≤ 4096 ∧ r.G.n ≤ 4096 ∧ r.I.n ≤ 4096 ∧ r.J.n ≤ 4096 ∧ r.K.n ≤ 4096 ∧ r.L.n ≤ 4096)
    (hs : bytes16_small r.A.n r.F.n r.I.n r.L.n r.T r.Ev r.Bo r.Re) : Calls Try.prog 9 r.args w fun e w' => ∃ t : Nat, e = .returned (.int .i64 t) ∧ t ≤ 8388608 ∧ w' = w := by
  obtain ⟨⟨aA, nA, cA, bA, oA⟩, T, ⟨aB, nB, cB, bB, oB⟩, P, ⟨aC, nC, cC, bC, oC⟩, Di, ⟨aD, nD, cD, bD, oD⟩, At, ⟨aE, nE, cE, bE, oE⟩, Ve, ⟨aF, nF, cF, bF, oF⟩, Ev, ⟨aG, nG, cG, bG, oG⟩, Pi, ⟨aI, nI, cI, bI, oI⟩, Bo, ⟨aJ, nJ, cJ, bJ, oJ⟩, Sta, ⟨aK, nK, cK, bK, oK⟩, Se, ⟨aL, nL, cL, bL, oL⟩, Re⟩ := r
  obtain ⟨hA, hB, hC, hD, hE, hF, hG, hI, hJ, hK, hL⟩ := h
  simp only [Recs.args] at *
  obtain ⟨l1, l2, l3, l4, l5, l6, l7, l8, l9, l10, l11⟩ := hl
  obtain ⟨s1, s2, s3, s4⟩ := hs
  have H1 : Hid (Calls Try.prog 33 #[.slice aA nA cA] w (RetN w)) := strBytes33 aA nA cA bA oA T w hA l1 s1
  have H2 : Hid (Calls Try.prog 33 #[.slice aF nF cF] w (RetN w)) := strBytes33 aF nF cF bF oF Ev w hF l6 s2
  have H3 : Hid (Calls Try.prog 33 #[.slice aI nI cI] w (RetN w)) := strBytes33 aI nI cI bI oI Bo w hI l8 s3
  have H4 : Hid (Calls Try.prog 33 #[.slice aL nL cL] w (RetN w)) := strBytes33 aL nL cL bL oL Re w hL l11 s4
  clear hA hB hC hD hE hF hG hI hJ hK hL s1 s2 s3 s4
  go_enter Try.func9, Try.ntmps9
  go_wp2_with fail
  refine H1.out.mono ?_
  rintro e w' ⟨t1, rfl, ht1, hw⟩
  obtain rfl := hw.symm
  clear hw
  go_wp2_with fail
  refine H2.out.mono ?_
  rintro e w' ⟨t2, rfl, ht2, hw⟩
  obtain rfl := hw.symm
  clear hw
  go_wp2_with fail
  refine H3.out.mono ?_
  rintro e w' ⟨t3, rfl, ht3, hw⟩
  obtain rfl := hw.symm
  clear hw
  go_wp2_with fail
  refine H4.out.mono ?_
  rintro e w' ⟨t4, rfl, ht4, hw⟩
  obtain rfl := hw.symm
  clear hw
  go_wp2_with fail
  go_ret
  exact ⟨8 * (nB + nC + nD + nE + nG + nJ + nK) + t1 + t2 + t3 + t4, by go_num, by omega, rfl⟩
end Go.Proofs.Qxb6605248a
