/- Leaf walks: zzPlanIDs, zzDueLacksGate, zzCloneGates. -/
import Derived.Test.Qxb6605248aLeafB
set_option linter.unusedVariables false
namespace Go.Proofs.Qxb6605248a
open Go.RowKit

theorem info9 : (Try.prog.info? 9).map (fun i => (i.zero, i.size, i.bytes)) = some (some (.string ⟨#[]⟩), 1, 16) := by kernel_rfl
theorem info35 : (Try.prog.info? 35).map (fun i => (i.zero, i.size, i.bytes)) = some (some (.pointer none), 1, 8) := by kernel_rfl

/-- the id of the plan's task j -/
def idAt (I : Nat → ByteArray) (m j : Nat) : ByteArray := if j < m then I j else ⟨#[]⟩

set_option maxHeartbeats 1000000 in
theorem planIDs20 (aA : Option Addr) (nA cA : Nat) (a : Option Addr) (n c b o : Nat) (I : Nat → ByteArray) (w : World) (h : Row w a n b o (fun j => .string (I j))) (hn : nA ≤ 4096 ∧ n ≤ 4096) :
    Calls Try.prog 20 #[.slice aA nA cA, .slice a n c] w fun e w' => e = .returned (.slice (some ⟨w.heap.size, 0, none⟩) nA nA) ∧ w'.rowIs w.heap.size 9 nA (fun j => .string (idAt I n j)) ∧ Below w.heap.size w w' := by
  have HR : Hid (Row w a n b o (fun j => .string (I j))) := h
  clear h
  obtain ⟨hA, hN⟩ := hn
  have hmk := fun w => run_make_many (P := Try.prog) 22 9 _ 1 16 Try.underlying22 info9 nA (by omega) (by omega) w
  go_enter Try.func20, Try.ntmps20
  go_wp2_with fail
  go_loopw [6] (fun i wr => ∃ k : Nat, k ≤ nA ∧ k ≤ n ∧ i = .int .i64 k ∧ Hid (wr.rowIs w.heap.size 9 nA (fun j => .string (idAt I k j))) ∧ Hid (Below w.heap.size w wr)) (fun i _ => nA - (intOf i).toNat)
  case atStart =>
    refine ⟨0, Nat.zero_le _, Nat.zero_le _, rfl, ?_, (Below.refl _ _).alloc (Nat.le_refl _) _⟩
    exact (World.rowIs_made w (.string ⟨#[]⟩) nA 9).congr (fun i _ => by simp [idAt])
  case round =>
    obtain ⟨k, hk, hk2, rfl, HO, HB⟩ := hrel
    by_cases hlt : k < nA ∧ k < n
    · obtain ⟨h1, h2⟩ := hlt
      obtain rfl : a = some ⟨b, o, none⟩ := HR.out.1 (by omega)
      have r1 : wr.cell? ⟨b, o + k, none⟩ = some (.string (I k)) := cell_later HB.out (HR.out.2.2 k h2)
      have i0 : (0 : Int) ≤ (k : Int) := by omega
      have i1 : (k : Int) < (n : Int) := by omega
      have i2 : (k : Int) < (nA : Int) := by omega
      have s1 := HO.out.cell (i := k) h1
      have f1 := HO.out.frozen k
      have HST : Hid ((wr.setCell ⟨w.heap.size, k, none⟩ (.string (I k))).rowIs w.heap.size 9 nA (fun j => .string (idAt I (k + 1) j))) := by
        refine (HO.out.set k (.string (I k))).congr ?_
        intro i _
        by_cases h1 : i = k
        · subst h1; simp [idAt]
        · rw [if_neg h1]
          unfold idAt
          by_cases h2 : i < k
          · rw [if_pos h2, if_pos (by omega)]
          · rw [if_neg h2, if_neg (by omega)]
      go_wp2_with fail
      go_roundw
      case rel => exact ⟨k + 1, by omega, by omega, by go_num, HST, HB.out.setCell (by simp) _⟩
      case measure => simp [intOf]; omega
    · have HE : Hid (wr.rowIs w.heap.size 9 nA (fun j => .string (idAt I n j))) := by
        refine HO.out.congr (fun i hi => ?_)
        unfold idAt
        by_cases h2 : i < k
        · rw [if_pos h2, if_pos (by omega)]
        · rw [if_neg h2, if_neg (by omega)]
      by_cases h3 : k < nA
      · have h4 : ¬ k < n := fun h => hlt ⟨h3, h⟩
        have i1 : ¬ (k : Int) < (n : Int) := by omega
        have i2 : (k : Int) < (nA : Int) := by omega
        go_wp2_with fail
        go_ret
        exact ⟨rfl, HE.out, HB.out⟩
      · have i2 : ¬ (k : Int) < (nA : Int) := by omega
        go_wp2_with fail
        go_ret
        exact ⟨rfl, HE.out, HB.out⟩

/-- the event 'due' -/
def dueS : ByteArray := ⟨#[100, 117, 101]⟩
/-- the event 'finished' -/
def finS : ByteArray := ⟨#[102, 105, 110, 105, 115, 104, 101, 100]⟩

theorem str_ne (s : ByteArray) (l : List UInt8) (h : ¬ s = ⟨l.toArray⟩) : (s.toList == l) = false := by
  rw [beq_eq_false_iff_ne]
  intro e
  apply h
  obtain ⟨⟨d⟩⟩ := s
  rw [ByteArray.toList_eq] at e
  simp only at e
  rw [e]
theorem str_same (s t : ByteArray) (h : ¬ s = t) : (s.toList == t.toList) = false := by
  rw [beq_eq_false_iff_ne]
  intro e
  apply h
  obtain ⟨⟨d⟩⟩ := s
  obtain ⟨⟨d'⟩⟩ := t
  rw [ByteArray.toList_eq, ByteArray.toList_eq] at e
  simp only at e
  rw [e]

/-- a bool; where it is false, P; the world as it was -/
def RetQ (P : Prop) (w : World) (e : Ending) (w' : World) : Prop := ∃ p : Bool, e = .returned (.bool p) ∧ (p = false → P) ∧ w' = w

set_option maxHeartbeats 1000000 in
theorem dueLacks19 (aG : Option Addr) (nG cG bG oG : Nat) (P : Nat → Option Addr) (a : Option Addr) (n c b o : Nat) (E : Nat → ByteArray) (w : World) (hG : Row w aG nG bG oG (fun j => .pointer (P j))) (h : Row w a n b o (fun j => .string (E j))) (hn : nG ≤ 4096 ∧ n ≤ 4096) :
    Calls Try.prog 19 #[.slice aG nG cG, .slice a n c] w (RetQ (∀ i, i < n → E i = dueS → i < nG ∧ P i ≠ none) w) := by
  have HR : Hid (Row w a n b o (fun j => .string (E j))) := h
  have HG : Hid (Row w aG nG bG oG (fun j => .pointer (P j))) := hG
  clear h hG
  obtain ⟨hA, hN⟩ := hn
  go_enter Try.func19, Try.ntmps19
  go_wp2_with fail
  go_loopw [5] (fun i wr => ∃ k : Nat, k ≤ n ∧ i = .int .i64 k ∧ Hid (∀ j, j < k → E j = dueS → j < nG ∧ P j ≠ none) ∧ wr = w) (fun i _ => n - (intOf i).toNat)
  case atStart => exact ⟨0, Nat.zero_le _, rfl, fun j hj => by omega, rfl⟩
  case round =>
    obtain ⟨k, hk, rfl, HN, hw⟩ := hrel
    obtain rfl := hw.symm
    clear hw
    by_cases hlt : k < n
    · obtain rfl : a = some ⟨b, o, none⟩ := HR.out.1 (by omega)
      have r1 : w.cell? ⟨b, o + k, none⟩ = some (.string (E k)) := HR.out.2.2 k hlt
      have i0 : (0 : Int) ≤ (k : Int) := by omega
      have i1 : (k : Int) < (n : Int) := by omega
      by_cases hd : E k = dueS
      · by_cases hg : k < nG
        · obtain rfl : aG = some ⟨bG, oG, none⟩ := HG.out.1 (by omega)
          have r2 : w.cell? ⟨bG, oG + k, none⟩ = some (.pointer (P k)) := HG.out.2.2 k hg
          have i2 : (k : Int) < (nG : Int) := by omega
          rw [hd] at r1
          unfold dueS at r1
          cases hp : P k with
          | none =>
            rw [hp] at r2
            go_wp2_with fail
            go_ret
            exact ⟨true, rfl, fun h => by simp at h, rfl⟩
          | some q =>
            rw [hp] at r2
            go_wp2_with fail
            go_roundw
            case rel =>
              refine ⟨k + 1, by omega, by go_num, fun j hj he => ?_, by first | rfl | trivial⟩
              by_cases hjk : j < k
              · exact HN.out j hjk he
              · obtain rfl : j = k := by omega
                exact ⟨hg, by rw [hp]; simp⟩
            case measure => simp [intOf]; omega
        · have i2 : ¬ (k : Int) < (nG : Int) := by omega
          rw [hd] at r1
          unfold dueS at r1
          go_wp2_with fail
          go_ret
          exact ⟨true, rfl, fun h => by simp at h, rfl⟩
      · have hd' : ((E k).toList == [100, 117, 101]) = false := str_ne _ _ hd
        go_wp2_with fail
        go_roundw
        case rel =>
          refine ⟨k + 1, by omega, by go_num, fun j hj he => ?_, by first | rfl | trivial⟩
          by_cases hjk : j < k
          · exact HN.out j hjk he
          · obtain rfl : j = k := by omega
            exact absurd he hd
        case measure => simp [intOf]; omega
    · obtain rfl : k = n := by omega
      go_wp2_with fail
      go_ret
      exact ⟨false, rfl, fun _ => HN.out, rfl⟩
end Go.Proofs.Qxb6605248a
