/- FnShiftComposesAndMovesRunLasts, walked. -/
import Derived.Test.Qxb6605212aEqC
import Derived.Test.Qxb6605212aKeep
set_option linter.unusedVariables false
namespace Go.Proofs.Qxb6605212a
open Go.RowKit

theorem wrap_two (x a b : Int) : wrap64 (wrap64 (x + a) + b) = wrap64 (x + wrap64 (a + b)) := by
  unfold wrap64
  omega
theorem lastOf_two (F E : Int) (n : Nat) (a b : Int) : lastOf (wrap64 (wrap64 (F + a) + b)) E n = wrap64 (wrap64 (lastOf F E n + a) + b) := by
  unfold lastOf
  generalize wrap64 (((n : Int) - 1) * E) = p
  unfold wrap64
  omega

/-- two states that hold the same -/
def StOwn.Alike (x y : StOwn) : Prop := y.cur = x.cur ∧ y.last = x.last ∧ y.dec = x.dec ∧ y.bef = x.bef ∧ y.idle = x.idle ∧ y.bst = x.bst ∧ y.bur = x.bur ∧ y.lost = x.lost ∧ y.isl = x.isl ∧ likeP x.U y.U ∧ likeP x.D y.D ∧ likeP x.C y.C ∧ likeR x.R y.R

theorem states16_alike (x y : StOwn) (w : World) (hx : x.Own w) (hy : y.Own w) (h : x.Alike y) :
    Calls Try.prog 16 #[x.val, y.val] w fun e w' => e = .returned (.bool true) ∧ Below w.heap.size w w' := by
  obtain ⟨cur, last, dec, U, D, C, bef, idle, R, bst, bur, lost, isl⟩ := x
  obtain ⟨cur', last', dec', U', D', C', bef', idle', R', bst', bur', lost', isl'⟩ := y
  obtain ⟨h1, h2, h3, h4, h5, h6, h7, h8, h9, h10, h11, h12, h13⟩ := h
  simp only at h1 h2 h3 h4 h5 h6 h7 h8 h9
  subst h1 h2 h3 h4 h5 h6 h7 h8 h9
  exact states16 cur' last' dec' U D C U' D' C' bef' idle' R R' bst' bur' lost' isl' w hx hy ⟨h10, h11, h12, h13⟩

theorem likeP_shift (p q : POwn) (i : PIn) (a b : Int) (hp : samePts p i) (hq : samePts q i) (hn : i.n ≤ 65536) : likeP ((p.shift a).shift b) (q.shift (wrap64 (a + b))) := by
  obtain ⟨p1, p2, p3, p4⟩ := hp
  obtain ⟨q1, q2, q3, q4⟩ := hq
  refine ⟨?_, ?_, ?_, ?_, ?_⟩
  · show p.n ≤ 65536
    rw [p1]; exact hn
  · show q.n = p.n
    rw [p1, q1]
  · show q.a.isNone = p.a.isNone
    rw [p4, q4]
  · intro j _
    show wrap64 (q.T j + wrap64 (a + b)) = wrap64 (wrap64 (p.T j + a) + b)
    rw [wrap_two, p2, q2]
  · intro j _
    show q.N j = p.N j
    rw [p3, q3]
theorem likeR_shift (p q : ROwn) (i : RIn) (a b : Int) (hp : sameRuns p i) (hq : sameRuns q i) (hn : i.n ≤ 65536) (hB : ∀ j, j < i.n → (i.B j).n ≤ 1048576) : likeR ((p.shift a).shift b) (q.shift (wrap64 (a + b))) := by
  obtain ⟨p1, p2, p3, p4, p5, p6⟩ := hp
  obtain ⟨q1, q2, q3, q4, q5, q6⟩ := hq
  refine ⟨?_, ?_, ?_, ?_, ?_, ?_, ?_⟩
  · show p.n ≤ 65536
    rw [p1]; exact hn
  · show q.n = p.n
    rw [p1, q1]
  · show q.a.isNone = p.a.isNone
    rw [p5, q5]
  · show q.S = p.S
    rw [p2, q2]
  · intro j _
    show wrap64 (q.F j + wrap64 (a + b)) = wrap64 (wrap64 (p.F j + a) + b)
    rw [wrap_two, p3, q3]
  · show q.E = p.E
    rw [p4, q4]
  · intro j hj
    have hj' : j < i.n := by rw [← p1]; exact hj
    obtain ⟨u1, u2, u3⟩ := p6 j hj'
    obtain ⟨v1, v2, v3⟩ := q6 j hj'
    show (p.B j).n ≤ 1048576 ∧ (q.B j).n = (p.B j).n ∧ (q.B j).a.isNone = (p.B j).a.isNone ∧ (q.B j).x = (p.B j).x
    rw [u1, u2, u3, v1, v2, v3]
    exact ⟨hB j hj', rfl, rfl, rfl⟩
theorem alike_shift (o q : StOwn) (s : StIn) (a b : Int) (ho : o.Copy s) (hq : q.Copy s) (hf : s.Fits) : ((o.shift a).shift b).Alike (q.shift (wrap64 (a + b))) := by
  obtain ⟨o1, o2, o3, o4, o5, o6, o7, o8, o9, o10, o11, o12, o13⟩ := ho
  obtain ⟨q1, q2, q3, q4, q5, q6, q7, q8, q9, q10, q11, q12, q13⟩ := hq
  refine ⟨?_, ?_, ?_, ?_, ?_, ?_, ?_, ?_, ?_, likeP_shift _ _ _ a b o4 q4 hf.1, likeP_shift _ _ _ a b o5 q5 hf.2.1, likeP_shift _ _ _ a b o6 q6 hf.2.2.1, likeR_shift _ _ _ a b o9 q9 hf.2.2.2.1 hf.2.2.2.2⟩
  · show q.cur = o.cur
    rw [o1, q1]
  · show wrap64 (q.last + wrap64 (a + b)) = wrap64 (wrap64 (o.last + a) + b)
    rw [wrap_two, o2, q2]
  · show q.dec = o.dec
    rw [o3, q3]
  · show q.bef = o.bef
    rw [o7, q7]
  · show q.idle = o.idle
    rw [o8, q8]
  · show (if q.bur then wrap64 (q.bst + wrap64 (a + b)) else q.bst) = (if o.bur then wrap64 ((if o.bur then wrap64 (o.bst + a) else o.bst) + b) else (if o.bur then wrap64 (o.bst + a) else o.bst))
    rw [o10, q10, o11, q11]
    cases s.bur
    · rfl
    · simp only [if_true]
      rw [wrap_two]
  · show q.bur = o.bur
    rw [o11, q11]
  · show (if q.isl then wrap64 (q.lost + wrap64 (a + b)) else q.lost) = (if o.isl then wrap64 ((if o.isl then wrap64 (o.lost + a) else o.lost) + b) else (if o.isl then wrap64 (o.lost + a) else o.lost))
    rw [o12, q12, o13, q13]
    cases s.isl
    · rfl
    · simp only [if_true]
      rw [wrap_two]
  · show q.isl = o.isl
    rw [o13, q13]

/-- what the loop needs of the two states with runs -/
theorem runs_two (o p : StOwn) (s : StIn) (a b : Int) (ho : o.Copy s) (hp : p.Copy s) (j : Nat) (hj : j < p.R.n) :
    (((o.shift a).shift b).R.B j).n = (p.R.B j).n ∧ lastOf (((o.shift a).shift b).R.F j) (((o.shift a).shift b).R.E j) (((o.shift a).shift b).R.B j).n = wrap64 (wrap64 (lastOf (p.R.F j) (p.R.E j) (p.R.B j).n + a) + b) := by
  have ho := ho.2.2.2.2.2.2.2.2.1
  have hp := hp.2.2.2.2.2.2.2.2.1
  obtain ⟨p1, p2, p3, p4, p5, p6⟩ := hp
  obtain ⟨q1, q2, q3, q4, q5, q6⟩ := ho
  have hj' : j < s.R.n := by rw [← p1]; exact hj
  obtain ⟨u1, u2, u3⟩ := p6 j hj'
  obtain ⟨v1, v2, v3⟩ := q6 j hj'
  refine ⟨?_, ?_⟩
  · show (o.R.B j).n = (p.R.B j).n
    rw [u1, v1]
  · show lastOf (wrap64 (wrap64 (o.R.F j + a) + b)) (o.R.E j) (o.R.B j).n = _
    rw [lastOf_two, u1, v1, p3, p4, q3, q4]
theorem ROwn.Own.row {r : ROwn} {w : World} (h : r.Own w) (hn : 0 < r.n) : r.a = some ⟨r.g, 0, none⟩ ∧ w.rowIs r.g 43 (r.n * 4) (runCell r.S r.F r.E r.B r.n) := by
  rcases h with h | ⟨h1, h2, _⟩
  · omega
  · exact ⟨h1, h2⟩
end Go.Proofs.Qxb6605212a
