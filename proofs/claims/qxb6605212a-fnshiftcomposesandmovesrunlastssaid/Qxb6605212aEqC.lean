/- zStatesEqual, walked where both states hold the same. -/
import Derived.Test.Qxb6605212aEqB
set_option linter.unusedVariables false
namespace Go.Proofs.Qxb6605212a
open Go.RowKit

/-- the same points -/
def likeP (p p' : POwn) : Prop := p.n ≤ 65536 ∧ p'.n = p.n ∧ p'.a.isNone = p.a.isNone ∧ (∀ j, j < p.n → p'.T j = p.T j) ∧ ∀ j, j < p.n → p'.N j = p.N j
def likeR (r r' : ROwn) : Prop := r.n ≤ 65536 ∧ r'.n = r.n ∧ r'.a.isNone = r.a.isNone ∧ r'.S = r.S ∧ (∀ j, j < r.n → r'.F j = r.F j) ∧ r'.E = r.E ∧ ∀ j, j < r.n → (r.B j).n ≤ 1048576 ∧ (r'.B j).n = (r.B j).n ∧ (r'.B j).a.isNone = (r.B j).a.isNone ∧ (r'.B j).x = (r.B j).x

theorem eqP (p p' : POwn) (w : World) (hp : p.Own w) (hp' : p'.Own w) (h : likeP p p') : Calls Try.prog 27 #[.slice p.a p.n p.n, .slice p'.a p'.n p'.n] w fun e w' => e = .returned (.bool true) ∧ ∃ k, w' = w.drewN k :=
  points27_own p p' w hp hp' h.1 h.2.1 h.2.2.1 h.2.2.2.1 h.2.2.2.2
theorem eqR (r r' : ROwn) (w : World) (hr : r.Own w) (hr' : r'.Own w) (h : likeR r r') : Calls Try.prog 28 #[.slice r.a r.n r.n, .slice r'.a r'.n r'.n] w fun e w' => e = .returned (.bool true) ∧ ∃ k, w' = w.drewN k :=
  runs28_own r r' w hr hr' h.1 h.2.1 h.2.2.1 h.2.2.2.1 h.2.2.2.2.1 h.2.2.2.2.2.1 h.2.2.2.2.2.2

set_option maxHeartbeats 4000000 in
theorem states16 (cur last : Int) (dec : Bool) (U D C U' D' C' : POwn) (bef idle : Int) (R R' : ROwn) (bst : Int) (bur : Bool) (lost : Int) (isl : Bool) (w : World)
    (hs : U.Own w ∧ D.Own w ∧ C.Own w ∧ R.Own w) (hs' : U'.Own w ∧ D'.Own w ∧ C'.Own w ∧ R'.Own w) (hl : likeP U U' ∧ likeP D D' ∧ likeP C C' ∧ likeR R R') :
    Calls Try.prog 16 #[StOwn.val ⟨cur, last, dec, U, D, C, bef, idle, R, bst, bur, lost, isl⟩, StOwn.val ⟨cur, last, dec, U', D', C', bef, idle, R', bst, bur, lost, isl⟩] w fun e w' => e = .returned (.bool true) ∧ Below w.heap.size w w' := by
  have HS : Hid (U.Own w ∧ D.Own w ∧ C.Own w ∧ R.Own w) := hs
  have HS' : Hid (U'.Own w ∧ D'.Own w ∧ C'.Own w ∧ R'.Own w) := hs'
  have HL : Hid (likeP U U' ∧ likeP D D' ∧ likeP C C' ∧ likeR R R') := hl
  clear hs hs' hl
  simp only [StOwn.val]
  go_enter Try.func16, Try.ntmps16
  have hB : Below w.heap.size w ((w.alloc (.cells #[.int .i64 cur, .int .i64 last, .bool dec, .slice U.a U.n U.n, .slice D.a D.n D.n, .slice C.a C.n C.n, .int .i64 bef, .int .i64 idle, .slice R.a R.n R.n, .int .i64 bst, .bool bur, .int .i64 lost, .bool isl] 37)).alloc (.cells #[.int .i64 cur, .int .i64 last, .bool dec, .slice U'.a U'.n U'.n, .slice D'.a D'.n D'.n, .slice C'.a C'.n C'.n, .int .i64 bef, .int .i64 idle, .slice R'.a R'.n R'.n, .int .i64 bst, .bool bur, .int .i64 lost, .bool isl] 37)) := ((Below.refl _ _).alloc (Nat.le_refl _) _).alloc (by simp) _
  have HB : Hid (Below w.heap.size w ((w.alloc (.cells #[.int .i64 cur, .int .i64 last, .bool dec, .slice U.a U.n U.n, .slice D.a D.n D.n, .slice C.a C.n C.n, .int .i64 bef, .int .i64 idle, .slice R.a R.n R.n, .int .i64 bst, .bool bur, .int .i64 lost, .bool isl] 37)).alloc (.cells #[.int .i64 cur, .int .i64 last, .bool dec, .slice U'.a U'.n U'.n, .slice D'.a D'.n D'.n, .slice C'.a C'.n C'.n, .int .i64 bef, .int .i64 idle, .slice R'.a R'.n R'.n, .int .i64 bst, .bool bur, .int .i64 lost, .bool isl] 37))) := hB
  clear hB
  go_wp2_with fail
  refine (eqP U U' _ (by exact HS.out.1.below HB.out) (by exact HS'.out.1.below HB.out) HL.out.1).mono ?_
  rintro e w' ⟨rfl, k1, rfl⟩
  go_wp2_with fail
  refine (eqP D D' _ (by exact HS.out.2.1.below (below_drewN HB.out _)) (by exact HS'.out.2.1.below (below_drewN HB.out _)) HL.out.2.1).mono ?_
  rintro e w' ⟨rfl, k2, rfl⟩
  go_wp2_with fail
  refine (eqP C C' _ (by exact HS.out.2.2.1.below (below_drewN HB.out _)) (by exact HS'.out.2.2.1.below (below_drewN HB.out _)) HL.out.2.2.1).mono ?_
  rintro e w' ⟨rfl, k3, rfl⟩
  go_wp2_with fail
  refine (eqR R R' _ (by exact HS.out.2.2.2.below (below_drewN HB.out _)) (by exact HS'.out.2.2.2.below (below_drewN HB.out _)) HL.out.2.2.2).mono ?_
  rintro e w' ⟨rfl, k4, rfl⟩
  go_wp2_with fail
  go_ret
  first
  | exact ⟨rfl, below_drewN HB.out _⟩
  | exact ⟨rfl, below_drewN (below_drewN HB.out _) _⟩
end Go.Proofs.Qxb6605212a
