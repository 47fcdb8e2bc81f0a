/- FnOwedDueThenPass: what Owed is told, three times. -/
import Derived.Test.Qxb6605248aDueA
set_option linter.unusedVariables false
namespace Go.Proofs.Qxb6605248a
open Go.RowKit Go.Maps

def nilSl : Sl := ⟨none, 0, 0, 0, 0⟩
theorem row_nil (w : World) (x : Nat → Value) : Row w none 0 0 0 x := ⟨fun h => by omega, fun _ => rfl, fun j hj => by omega⟩
/-- the eleven slices of this law -/
def dueRecs (C D E : Sl) (T : Nat → ByteArray) (P : Nat → Option Addr) (Ev : Nat → ByteArray) : Recs :=
  { A := C, T := T, B := D, P := P, C := nilSl, Di := fun _ => false, D := nilSl, At := fun _ => 0, E := nilSl, Ve := fun _ => false, F := E, Ev := Ev, G := nilSl, Pi := fun _ => 0, I := nilSl, Bo := fun _ => ⟨#[]⟩, J := nilSl, Sta := fun _ => 0, K := nilSl, Se := fun _ => 0, L := nilSl, Re := fun _ => ⟨#[]⟩ }
theorem dueRecs_in {C D E : Sl} {T : Nat → ByteArray} {P : Nat → Option Addr} {Ev : Nat → ByteArray} {w : World} (h1 : Row w C.a C.n C.b C.o (fun j => .string (T j))) (h2 : Row w D.a D.n D.b D.o (fun j => .pointer (P j))) (h3 : Row w E.a E.n E.b E.o (fun j => .string (Ev j))) : (dueRecs C D E T P Ev).In w :=
  ⟨h1, h2, row_nil w _, row_nil w _, row_nil w _, h3, row_nil w _, row_nil w _, row_nil w _, row_nil w _, row_nil w _⟩

theorem owedIn_base {C D E : Sl} {T : Nat → ByteArray} {P P0 : Nat → Option Addr} {Ev : Nat → ByteArray} {G : Nat → Int} {w : World} {rg : Nat} (hrow : w.rowIs rg 41 (E.n * 11) (recCell (dueRecs C D E T P Ev).at E.n)) (hG : Gates w D.n P G)
    (hP : ∀ j, j < D.n → (P j).isSome = (P0 j).isSome) (hdl : ∀ i, i < E.n → Ev i = dueS → i < D.n ∧ P0 i ≠ none) (hT : ∀ j, j < C.n → (T j).size ≤ 1048576) (hw : ∀ j, j < D.n → P0 j ≠ none → (Lit.int .i64 (G j)).wf = true) :
    OwedIn w rg E.n (dueRecs C D E T P Ev).at G := by
  have hgate : ∀ j, ((dueRecs C D E T P Ev).at j).gate = if j < D.n then P j else none := fun j => rfl
  have htask : ∀ j, ((dueRecs C D E T P Ev).at j).task = if j < C.n then T j else ⟨#[]⟩ := fun j => rfl
  have hPn : ∀ j, j < D.n → (P j = none ↔ P0 j = none) := fun j hj => by
    have := hP j hj
    cases h1 : P j <;> cases h2 : P0 j <;> simp_all
  refine ⟨recRow_of hrow, fun j hj q hq => ?_, fun j hj he => ?_, fun j hj => ?_, fun j hj hg => ?_⟩
  · rw [hgate] at hq
    split at hq
    · exact hG j (by assumption) q hq
    · cases hq
  · obtain ⟨h1, h2⟩ := hdl j hj he
    rw [hgate, if_pos h1]
    intro h3
    exact h2 ((hPn j h1).1 h3)
  · rw [htask]
    split
    · have := hT j (by assumption)
      unfold maxLen
      omega
    · exact Nat.zero_le _
  · rw [hgate] at hg
    split at hg
    · exact hw j (by assumption) (fun h => hg ((hPn j (by assumption)).2 h))
    · exact absurd rfl hg

theorem zeroRecs (w : World) (N : Nat) (rc : Nat → Rec) : (w.alloc (.cells (madeCells #[.string ⟨#[]⟩, .pointer none, .bool false, .int .i64 0, .bool false, .string ⟨#[]⟩, .int .i64 0, .string ⟨#[]⟩, .int .u64 0, .int .i64 0, .string ⟨#[]⟩] (N * 11)) 41)).rowIs w.heap.size 41 (N * 11) (recCell rc 0) := by
  refine (rowIs_made_many w _ (N * 11) 41).congr ?_
  intro i hi
  simp only [recCell, Nat.not_lt_zero, if_false]
  have hz : ∀ j, j < 11 → (#[Value.string ⟨#[]⟩, .pointer none, .bool false, .int .i64 0, .bool false, .string ⟨#[]⟩, .int .i64 0, .string ⟨#[]⟩, .int .u64 0, .int .i64 0, .string ⟨#[]⟩] : Array Value)[j]! = Rec.zero.cells.getD j undef := by
    intro j hj
    rcases lt11 j hj with h | h | h | h | h | h | h | h | h | h | h <;> subst h <;> rfl
  exact hz (i % 11) (Nat.mod_lt _ (by omega))
def withG (G : Nat → Int) (n : Nat) (g : Int) (j : Nat) : Int := if j = n then g else G j
theorem owedIn_snoc {w : World} {rg rg' m : Nat} {rc : Nat → Rec} {G : Nat → Int} (h : OwedIn w rg m rc G) (q : Rec) (g : Int) (a : Addr) (hq : q.gate = some a) (hc : w.cell? a = some (.int .i64 g)) (hs : q.task.size ≤ maxLen) (hg : (Lit.int .i64 g).wf = true)
    (hrow : RecRow w rg' (m + 1) (withRec rc m q)) : OwedIn w rg' (m + 1) (withRec rc m q) (withG G m g) := by
  have e1 : ∀ j, j < m → withRec rc m q j = rc j := fun j hj => by unfold withRec; rw [if_neg (by omega)]
  have e2 : withRec rc m q m = q := by unfold withRec; rw [if_pos rfl]
  have e3 : ∀ j, j < m → withG G m g j = G j := fun j hj => by unfold withG; rw [if_neg (by omega)]
  have e4 : withG G m g m = g := by unfold withG; rw [if_pos rfl]
  have hcase : ∀ j, j < m + 1 → j < m ∨ j = m := fun j hj => by omega
  refine ⟨hrow, fun j hj x hx => ?_, fun j hj he => ?_, fun j hj => ?_, fun j hj hn => ?_⟩
  · rcases hcase j hj with h1 | h1
    · rw [e1 j h1] at hx
      rw [e3 j h1]
      exact h.gate j h1 x hx
    · subst h1
      rw [e2, hq] at hx
      cases hx
      rw [e4]
      exact hc
  · rcases hcase j hj with h1 | h1
    · rw [e1 j h1] at he ⊢
      exact h.due j h1 he
    · subst h1
      rw [e2, hq]
      simp
  · rcases hcase j hj with h1 | h1
    · rw [e1 j h1]
      exact h.size j h1
    · subst h1
      rw [e2]
      exact hs
  · rcases hcase j hj with h1 | h1
    · rw [e1 j h1] at hn
      rw [e3 j h1]
      exact h.wf j h1 hn
    · subst h1
      rw [e4]
      exact hg
theorem owedF_congr (p : Pl) (rc rc' : Nat → Rec) (G G' : Nat → Int) (n : Nat) (h1 : ∀ j, j < n → rc' j = rc j) (h2 : ∀ j, j < n → G' j = G j) : owedF p rc' G' n = owedF p rc G n := by
  induction n with
  | zero => rfl
  | succ n ih =>
    unfold owedF
    rw [h1 n (by omega), h2 n (by omega), ih (fun j hj => h1 j (by omega)) (fun j hj => h2 j (by omega))]
theorem owedF_snoc (p : Pl) (rc : Nat → Rec) (G : Nat → Int) (m : Nat) (q : Rec) (g : Int) : owedF p (withRec rc m q) (withG G m g) (m + 1) = owedStep p (owedF p rc G m) q g := by
  have e : owedF p (withRec rc m q) (withG G m g) (m + 1) = owedStep p (owedF p (withRec rc m q) (withG G m g) m) (withRec rc m q m) (withG G m g m) := rfl
  rw [e, owedF_congr p rc (withRec rc m q) G (withG G m g) m (fun j hj => by unfold withRec; rw [if_neg (by omega)]) (fun j hj => by unfold withG; rw [if_neg (by omega)])]
  unfold withRec withG
  rw [if_pos rfl, if_pos rfl]
end Go.Proofs.Qxb6605248a
