/- HOW THE ARGUMENTS OF THIS SEAT READ. -/
import Derived.Test.Qxb6605248aGates
import Derived.ProofKit
import Derived.OpenShut
import Derived.Deep.SlicePairs
import Derived.Deep.Slices
set_option linter.unusedVariables false
namespace Go.Proofs.Qxb6605248a
open Go.ChangeShapes Go.WideShapes Go.ChangeAt Go.RowKit Go.Deep

section
variable {H : Type} {enc : TypeId × Value → H} {w : World} {base : Nat} {spare : Nat → Bool} {held : Bool} {fuel : Nat} {x : DataW H × List MemPlace}

theorem Try.cells9 : Try.prog.cellsOf 9 = 1 := by kernel_rfl
theorem Try.cells3 : Try.prog.cellsOf 3 = 1 := by kernel_rfl
theorem Try.cells4 : Try.prog.cellsOf 4 = 1 := by kernel_rfl
theorem Try.cells37 : Try.prog.cellsOf 37 = 1 := by kernel_rfl
theorem Try.cells35 : Try.prog.cellsOf 35 = 1 := by kernel_rfl

/-- a slice of one-cell elements, opened -/
theorem open_row {α : Type} (y0 : α) {t e : TypeId} (ht : Try.prog.underlying t = some (.slice e)) (hc : Try.prog.cellsOf e = 1) (mk : α → Value) (good : α → Prop)
    (hel : ∀ (fuel : Nat) (v : Value) (x : DataW H × List MemPlace), DataW.trod enc Try.prog w base spare held fuel e [v] = some x → ∃ y, v = mk y ∧ good y) {a : Option Addr} {n c : Nat} (h : DataW.trod enc Try.prog w base spare held fuel t [.slice a n c] = some x) :
    ∃ b o, ∃ X : Nat → α, Row w a n b o (fun j => mk (X j)) ∧ (a = none → c = 0) ∧ ∀ j, j < n → good (X j) := by
  rcases open_slice1 ht hc h with ⟨h0, _⟩ | ⟨ad, len, cap, m, k, V, D, Pl, h0, _, hl, hm, hmm, _, hx⟩
  · simp at h0
    obtain ⟨rfl, rfl, rfl⟩ := h0
    exact ⟨0, 0, fun _ => y0, ⟨fun h => by omega, fun _ => rfl, fun j hj => by omega⟩, fun _ => rfl, fun j hj => by omega⟩
  · simp at h0
    obtain ⟨rfl, rfl, rfl⟩ := h0
    have hlm : n ≤ m := by rw [hmm]; split <;> omega
    have each : ∀ j, j < n → ∃ y : α, w.cell? (ad.add j) = some (mk y) ∧ good y := by
      intro j hj
      obtain ⟨c0, d0⟩ := hx j (by omega)
      obtain ⟨y, e, hg⟩ := hel _ _ _ d0
      rw [e] at c0
      exact ⟨y, c0, hg⟩
    have inh : Inhabited α := ⟨y0⟩
    obtain ⟨X, hX⟩ := choose_lt each
    by_cases h0 : n = 0
    · subst h0
      exact ⟨0, 0, X, ⟨fun h => by omega, fun h => by simp at h, fun j hj => by omega⟩, fun h => by simp at h, fun j hj => by omega⟩
    · obtain ⟨b, o, spot⟩ := ad
      have hspot : spot = none := by simpa [Addr.add] using World.cell?_spot (hX 0 (by omega)).1
      subst hspot
      refine ⟨b, o, X, ⟨fun _ => rfl, fun h => by simp at h, fun j hj => ?_⟩, fun h => by simp at h, fun j hj => (hX j hj).2⟩
      have := (hX j hj).1
      rw [add_plain] at this
      exact this

theorem open_strs {a : Option Addr} {n c : Nat} (h : DataW.trod enc Try.prog w base spare held fuel 22 [.slice a n c] = some x) :
    ∃ b o, ∃ T : Nat → ByteArray, Row w a n b o (fun j => .string (T j)) := by
  obtain ⟨b, o, T, h1, _, _⟩ := open_row (⟨#[]⟩ : ByteArray) Try.underlying22 Try.cells9 (fun s => .string s) (fun _ => True) (fun fuel v x h => by
    obtain ⟨s, e, _, _⟩ := DataW.trod_string Try.underlying9 h
    simp at e
    exact ⟨s, e, trivial⟩) h
  exact ⟨b, o, T, h1⟩
theorem open_ints25 {a : Option Addr} {n c : Nat} (h : DataW.trod enc Try.prog w base spare held fuel 25 [.slice a n c] = some x) :
    ∃ b o, ∃ X : Nat → Int, Row w a n b o (fun j => .int .i64 (X j)) ∧ ∀ j, j < n → (Lit.int .i64 (X j)).wf = true := by
  obtain ⟨b, o, T, h1, _, h2⟩ := open_row (0 : Int) Try.underlying25 Try.cells3 (fun s => .int .i64 s) (fun s => (Lit.int .i64 s).wf = true) (fun fuel v x h => by
    obtain ⟨s, e, _, hw⟩ := DataW.trod_int Try.underlying3 h
    simp at e
    exact ⟨s, e, hw⟩) h
  exact ⟨b, o, T, h1, h2⟩
theorem open_u64s {a : Option Addr} {n c : Nat} (h : DataW.trod enc Try.prog w base spare held fuel 26 [.slice a n c] = some x) :
    ∃ b o, ∃ X : Nat → Int, Row w a n b o (fun j => .int .u64 (X j)) := by
  obtain ⟨b, o, T, h1, _, _⟩ := open_row (0 : Int) Try.underlying26 Try.cells37 (fun s => .int .u64 s) (fun _ => True) (fun fuel v x h => by
    obtain ⟨s, e, _, hw⟩ := DataW.trod_int Try.underlying37 h
    simp at e
    exact ⟨s, e, trivial⟩) h
  exact ⟨b, o, T, h1⟩
theorem open_bools {a : Option Addr} {n c : Nat} (h : DataW.trod enc Try.prog w base spare held fuel 24 [.slice a n c] = some x) :
    ∃ b o, ∃ X : Nat → Bool, Row w a n b o (fun j => .bool (X j)) := by
  obtain ⟨b, o, T, h1, _, _⟩ := open_row false Try.underlying24 Try.cells4 (fun s => .bool s) (fun _ => True) (fun fuel v x h => by
    obtain ⟨s, e, _⟩ := DataW.trod_bool Try.underlying4 h
    simp at e
    exact ⟨s, e, trivial⟩) h
  exact ⟨b, o, T, h1⟩
theorem open_gates {a : Option Addr} {n c : Nat} (h : DataW.trod enc Try.prog w base spare held fuel 23 [.slice a n c] = some x) :
    ∃ b o, ∃ P : Nat → Option Addr, ∃ G : Nat → Int, Row w a n b o (fun j => .pointer (P j)) ∧ (a = none → c = 0) ∧ Gates w n P G ∧ ∀ j, j < n → P j ≠ none → (Lit.int .i64 (G j)).wf = true := by
  obtain ⟨b, o, T, h1, h2, h3⟩ := open_row ((none, 0) : Option Addr × Int) Try.underlying23 Try.cells35 (fun s => .pointer s.1) (fun s => ∀ q, s.1 = some q → w.cell? q = some (.int .i64 s.2) ∧ (Lit.int .i64 s.2).wf = true) (fun fuel v x h => by
    rcases DataW.trod_pointer Try.underlying35 h with ⟨e, _⟩ | ⟨ad, cs, y, m, _, e, _, hcells, hd'⟩
    · simp at e
      exact ⟨(none, 0), e, fun q hq => by cases hq⟩
    · simp at e
      obtain ⟨_, hlen, hcell⟩ := World.cells?_some hcells
      rw [Try.cells3] at hlen hcell
      obtain ⟨s, e2, _, hw⟩ := DataW.trod_int Try.underlying3 hd'
      have h0 := hcell 0 (by omega)
      rw [e2] at h0
      refine ⟨(some ad, s), e, fun q hq => ?_⟩
      cases hq
      refine ⟨?_, hw⟩
      obtain ⟨b, off, spot⟩ := ad
      have hspot : spot = none := by simpa [Addr.add] using World.cell?_spot h0
      subst hspot
      rw [add_plain] at h0
      simpa using h0) h
  exact ⟨b, o, fun j => (T j).1, fun j => (T j).2, h1, h2, fun j hj q hq => (h3 j hj q hq).1, fun j hj hn => by
    cases hq : (T j).1 with
    | none => exact absurd hq hn
    | some q => exact (h3 j hj q hq).2⟩
end
end Go.Proofs.Qxb6605248a
