/- HOW THE ARGUMENTS OF THIS SEAT READ: a slice of points. -/
import Derived.Test.Qxb6605212aAt
import Derived.ProofKit
import Derived.OpenShut
import Derived.Deep.SlicePairs
namespace Go.Proofs.Qxb6605212a
open Go.ChangeShapes Go.WideShapes Go.ChangeAt Go.RowKit Go.Deep

theorem Try.cells61 : Try.prog.cellsOf 61 = 2 := by kernel_rfl
theorem Try.cells2 : Try.prog.cellsOf 2 = 1 := by kernel_rfl
theorem Try.cells3 : Try.prog.cellsOf 3 = 1 := by kernel_rfl
theorem fieldsOf61 : ∃ f0 f1 : Field, Try.prog.underlying 61 = some (.struct #[f0, f1]) ∧ f0.offset = 0 ∧ f1.offset = 1 ∧ f0.type = 2 ∧ f1.type = 3 := ⟨_, _, Try.underlying61, rfl, rfl, rfl, rfl⟩

/-- WHAT THE WALK IS TOLD OF A SLICE OF POINTS THAT CAME IN -/
def IsPts (w : World) (a : Option Addr) (n c : Nat) (b o : Nat) (T N : Nat → Int) : Prop :=
  n ≤ maxLen ∧ (0 < n → a = some ⟨b, o, none⟩) ∧ (a = none → n = 0 ∧ c = 0) ∧ pts w b o n T N ∧ ∀ j, j < n → -9223372036854775808 ≤ T j ∧ T j ≤ 9223372036854775807

theorem bnd64 {n : Int} (h : (Lit.int .i64 n).wf = true) : -9223372036854775808 ≤ n ∧ n ≤ 9223372036854775807 := by
  have h' := h
  simp [Lit.wf, IntKind.min, IntKind.max, IntKind.bits, IntKind.signed] at h'
  omega

theorem open_points {H : Type} {enc : TypeId × Value → H} {w : World} {base : Nat} {spare : Nat → Bool} {held : Bool} {fuel : Nat} {a : Option Addr} {n c : Nat} {x : DataW H × List MemPlace}
    (h : DataW.trod enc Try.prog w base spare held fuel 23 [.slice a n c] = some x) : ∃ b o T N, IsPts w a n c b o T N := by
  obtain ⟨f0, f1, hu, o0, o1, t0, t1⟩ := fieldsOf61
  rcases open_slice_pairs Try.underlying23 hu Try.cells61 o0 o1 (by rw [t0]; exact Try.cells2) (by rw [t1]; exact Try.cells3) h with ⟨hcs, _⟩ | ⟨ad, len, cap, m, k, V0, V1, D0, D1, P0, P1, hcs, _, hl, hm, hmm, _, hx⟩
  · simp at hcs
    obtain ⟨rfl, rfl, rfl⟩ := hcs
    exact ⟨0, 0, fun _ => 0, fun _ => 0, Nat.zero_le _, fun h => by omega, fun _ => ⟨rfl, rfl⟩, fun j hj => by omega, fun j hj => by omega⟩
  · simp at hcs
    obtain ⟨rfl, rfl, rfl⟩ := hcs
    have hlm : n ≤ m := by rw [hmm]; split <;> omega
    have each : ∀ j, j < n → w.cell? (ad.add (j * 2)) = some (.int .i64 (intOf (V0 j))) ∧ w.cell? (ad.add (j * 2 + 1)) = some (.int .i64 (intOf (V1 j))) ∧ (-9223372036854775808 ≤ intOf (V0 j) ∧ intOf (V0 j) ≤ 9223372036854775807) := by
      intro j hj
      obtain ⟨c0, c1, d0, d1⟩ := hx j (by omega)
      rw [t0] at d0
      rw [t1] at d1
      obtain ⟨x0, e0, _, w0⟩ := DataW.trod_int Try.underlying2 d0
      obtain ⟨x1, e1, _, _⟩ := DataW.trod_int Try.underlying3 d1
      simp at e0 e1
      rw [c0, c1, e0, e1]
      exact ⟨rfl, rfl, bnd64 w0⟩
    by_cases h0 : n = 0
    · subst h0
      exact ⟨0, 0, fun _ => 0, fun _ => 0, Nat.zero_le _, fun h => by omega, fun h => by simp at h, fun j hj => by omega, fun j hj => by omega⟩
    · obtain ⟨b, o, spot⟩ := ad
      have hspot : spot = none := by simpa [Addr.add] using World.cell?_spot (each 0 (by omega)).1
      subst hspot
      refine ⟨b, o, fun j => intOf (V0 j), fun j => intOf (V1 j), by omega, fun _ => rfl, fun h => by simp at h, ?_, fun j hj => (each j hj).2.2⟩
      intro j hj
      have := each j hj
      rw [add_plain, add_plain] at this
      exact ⟨this.1, this.2.1⟩
end Go.Proofs.Qxb6605212a
