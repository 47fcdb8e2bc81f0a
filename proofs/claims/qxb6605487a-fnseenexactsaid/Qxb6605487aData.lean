/- HOW THE ARGUMENTS OF THIS SEAT READ: a slice of versions. -/
import Derived.Test.Qxb6605487aCopy
import Derived.ProofKit
import Derived.OpenShut
import Derived.Deep.SlicePairs
import Derived.Deep.Slices
set_option linter.unusedVariables false
namespace Go.Proofs.Qxb6605487a
open Go.ChangeShapes Go.WideShapes Go.ChangeAt Go.RowKit Go.Deep

section
variable {H : Type} {enc : TypeId × Value → H} {w : World} {base : Nat} {spare : Nat → Bool} {held : Bool} {fuel : Nat} {x : DataW H × List MemPlace}

theorem Try.cells5 : Try.prog.cellsOf 5 = 1 := by kernel_rfl
theorem Try.cells4 : Try.prog.cellsOf 4 = 1 := by kernel_rfl
theorem Try.cells22 : Try.prog.cellsOf 22 = 1 := by kernel_rfl
theorem Try.cells33 : Try.prog.cellsOf 33 = 1 := by kernel_rfl
theorem Try.cells35 : Try.prog.cellsOf 35 = 3 := by kernel_rfl
theorem fieldsOf35 : ∃ f0 f1 f2 : Field, Try.prog.underlying 35 = some (.struct #[f0, f1, f2]) ∧ f0.offset = 0 ∧ f1.offset = 1 ∧ f2.offset = 2 ∧ f0.type = 22 ∧ f1.type = 4 ∧ f2.type = 33 := ⟨_, _, _, Try.underlying35, rfl, rfl, rfl, rfl, rfl, rfl⟩

theorem nonneg64 {n : Int} (h : (Lit.int .u64 n).wf = true) : 0 ≤ n := by
  have h' := h
  simp [Lit.wf, IntKind.min, IntKind.max, IntKind.bits, IntKind.signed] at h'
  omega

theorem open_bytes {v : Value} (h : DataW.trod enc Try.prog w base spare held fuel 22 [v] = some x) : ∃ f : BIn, v = .slice f.a f.n f.c ∧ f.In w := by
  rcases open_slice1 Try.underlying22 Try.cells5 h with ⟨h0, _⟩ | ⟨ad, len, cap, m, n, V, D, Pl, h0, _, hl, hm, hmm, _, hx⟩
  · simp at h0
    subst h0
    exact ⟨⟨none, 0, 0, 0, 0, fun _ => 0⟩, rfl, fun h => by simp at h, fun _ => ⟨rfl, rfl⟩, fun j hj => by simp at hj⟩
  · simp at h0
    subst h0
    have hlm : len ≤ m := by rw [hmm]; split <;> omega
    have each : ∀ j, j < len → ∃ bits : Int, w.cell? (ad.add j) = some (.int .u8 bits) := by
      intro j hj
      obtain ⟨c0, d0⟩ := hx j (by omega)
      obtain ⟨b, e, _, _⟩ := DataW.trod_int Try.underlying5 d0
      simp at e
      rw [e] at c0
      exact ⟨b, c0⟩
    obtain ⟨X, hX⟩ := choose_lt each
    by_cases h0 : len = 0
    · subst h0
      exact ⟨⟨some ad, 0, cap, 0, 0, X⟩, rfl, fun h => by simp at h, fun h => by simp at h, fun j hj => by simp at hj⟩
    · obtain ⟨b, o, spot⟩ := ad
      have hspot : spot = none := by simpa [Addr.add] using World.cell?_spot (hX 0 (by omega))
      subst hspot
      refine ⟨⟨some ⟨b, o, none⟩, len, cap, b, o, X⟩, rfl, fun _ => rfl, fun h => by simp at h, fun j hj => ?_⟩
      have := hX j hj
      rw [add_plain] at this
      exact this

theorem list3 {α : Type} (l : List α) (h : l.length = 3) : ∃ a b c, l = [a, b, c] := by
  match l, h with
  | [a, b, c], _ => exact ⟨a, b, c, rfl⟩

theorem trod_slice_form {t e : TypeId} {v : Value} (ht : Try.prog.underlying t = some (.slice e)) (h : DataW.trod enc Try.prog w base spare held fuel t [v] = some x) : ∃ a n c, v = .slice a n c := by
  rcases open_slice ht h with ⟨h0, _⟩ | ⟨a, len, cap, m, n, D, Pl, h0, _⟩
  · simp at h0; exact ⟨_, _, _, h0⟩
  · simp at h0; exact ⟨_, _, _, h0⟩

theorem open_chain {v : Value} (h : DataW.trod enc Try.prog w base spare held fuel 31 [v] = some x) : ∃ r : CIn, v = .slice r.a r.n r.c ∧ r.In w := by
  obtain ⟨f0, f1, f2, hu, o0, o1, o2, t0, t1, t2⟩ := fieldsOf35
  rcases open_slice Try.underlying31 h with ⟨h0, _⟩ | ⟨ad, len, cap, m, n, D, Pl, h0, _, hl, hm, hmm, _, hx⟩
  · simp at h0
    subst h0
    exact ⟨⟨none, 0, 0, 0, 0, fun _ => ⟨none, 0, 0, 0, 0, fun _ => 0⟩, fun _ => false, fun _ => 0⟩, rfl, fun h => by simp at h, fun _ => ⟨rfl, rfl⟩, fun j hj => by simp at hj⟩
  · simp at h0
    subst h0
    have hlm : len ≤ m := by rw [hmm]; split <;> omega
    have each : ∀ j, j < len → ∃ q : BIn × Bool × Int, w.cell? (ad.add (j * 3)) = some (.slice q.1.a q.1.n q.1.c) ∧ w.cell? (ad.add (j * 3 + 1)) = some (.bool q.2.1) ∧ w.cell? (ad.add (j * 3 + 2)) = some (.int .u64 q.2.2) ∧ q.1.In w ∧ 0 ≤ q.2.2 := by
      intro j hj
      obtain ⟨cs', h1, h2⟩ := hx j (by omega)
      rw [Try.cells35] at h1
      obtain ⟨_, hlen, hcell⟩ := World.cells?_some h1
      obtain ⟨xs, k, hk, hxy, _, hxl, hf⟩ := DataW.trod_struct hu h2
      obtain ⟨v0, v1, v2, rfl⟩ := list3 cs' hlen
      obtain ⟨y0, y1, y2, rfl⟩ := list3 xs hxl
      have g0 := hf 0 f0 rfl
      have g1 := hf 1 f1 rfl
      have g2 := hf 2 f2 rfl
      simp [o0, o1, o2, t0, t1, t2, Try.cells22, Try.cells4, Try.cells33] at g0 g1 g2
      have e0 := hcell 0 (by omega)
      have e1 := hcell 1 (by omega)
      have e2 := hcell 2 (by omega)
      rw [add_add] at e0 e1 e2
      obtain ⟨i0, q0, hin⟩ := open_bytes g0
      obtain ⟨i1, q1, _⟩ := DataW.trod_bool Try.underlying4 g1
      obtain ⟨i2, q2, _, hw2⟩ := DataW.trod_int Try.underlying33 g2
      simp at q1 q2
      subst q0 q1 q2
      exact ⟨(i0, i1, i2), by simpa using e0, by simpa using e1, by simpa using e2, hin, nonneg64 hw2⟩
    have inh : Inhabited (BIn × Bool × Int) := ⟨(⟨none, 0, 0, 0, 0, fun _ => 0⟩, false, 0)⟩
    obtain ⟨q, hq⟩ := choose_lt each
    by_cases h0 : len = 0
    · subst h0
      exact ⟨⟨some ad, 0, cap, 0, 0, fun _ => ⟨none, 0, 0, 0, 0, fun _ => 0⟩, fun _ => false, fun _ => 0⟩, rfl, fun h => by simp at h, fun h => by simp at h, fun j hj => by simp at hj⟩
    · obtain ⟨b, o, spot⟩ := ad
      have hspot : spot = none := by simpa [Addr.add] using World.cell?_spot (hq 0 (by omega)).1
      subst hspot
      refine ⟨⟨some ⟨b, o, none⟩, len, cap, b, o, fun j => (q j).1, fun j => (q j).2.1, fun j => (q j).2.2⟩, rfl, fun _ => rfl, fun h => by simp at h, fun j hj => ?_⟩
      obtain ⟨e0, e1, e2, e3, e4⟩ := hq j hj
      rw [add_plain] at e0 e1 e2
      exact ⟨e0, e1, e2, e3, e4⟩
end
end Go.Proofs.Qxb6605487a
