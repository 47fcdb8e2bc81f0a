/- Shift, walked. -/
import Derived.Test.Qxb6605212aStC
namespace Go.Proofs.Qxb6605212a
open Go.RowKit

/-- what stays: all blocks but those in S -/
structure Keeps (S : Nat → Prop) (w w' : World) : Prop where
  os : w'.os = w.os
  tape : w'.tape = w.tape
  output : w'.output = w.output
  size : w.heap.size ≤ w'.heap.size
  block : ∀ k, k < w.heap.size → ¬ S k → w'.heap[k]? = w.heap[k]?
theorem Keeps.refl (S : Nat → Prop) (w : World) : Keeps S w w := ⟨rfl, rfl, rfl, Nat.le_refl _, fun _ _ _ => rfl⟩
theorem Keeps.trans {S : Nat → Prop} {a b c : World} (h : Keeps S a b) (k : Keeps S b c) : Keeps S a c :=
  ⟨k.os.trans h.os, k.tape.trans h.tape, k.output.trans h.output, Nat.le_trans h.size k.size, fun i hi hn => (k.block i (Nat.lt_of_lt_of_le hi h.size) hn).trans (h.block i hi hn)⟩
theorem Keeps.mono {S S' : Nat → Prop} {w w' : World} (h : Keeps S w w') (hs : ∀ k, S k → S' k) : Keeps S' w w' := ⟨h.os, h.tape, h.output, h.size, fun k hk hn => h.block k hk (fun hS => hn (hs k hS))⟩
theorem Keeps.drew {S : Nat → Prop} {a w : World} (h : Keeps S a w) : Keeps S a w.drew := ⟨h.os, h.tape, h.output, h.size, h.block⟩
theorem Keeps.setCell {S : Nat → Prop} {a w : World} (h : Keeps S a w) {p : Addr} (hp : S p.block) (u : Value) : Keeps S a (w.setCell p u) :=
  h.trans ⟨rfl, rfl, rfl, by simp [World.setCell], fun k _ hn => Below.heap_setCell _ _ _ _ (fun e => hn (e ▸ hp))⟩
theorem Keeps.alloc {S : Nat → Prop} {a w : World} (h : Keeps S a w) (o : Obj) : Keeps S a (w.alloc o) :=
  h.trans ⟨rfl, rfl, rfl, by simp, fun k hk _ => Below.heap_alloc _ _ _ hk⟩
theorem Keeps.of_below {B : Nat} {w w' : World} (h : Below B w w') : Keeps (fun k => B ≤ k) w w' := ⟨h.os, h.tape, h.output, h.size, fun k _ hn => h.block k (by omega)⟩
theorem Keeps.below {S : Nat → Prop} {w w' : World} (h : Keeps S w w') (B : Nat) (hB : B ≤ w.heap.size) (hs : ∀ k, S k → B ≤ k) : Below B w w' :=
  ⟨h.os, h.tape, h.output, h.size, fun k hk => h.block k (by omega) (fun hS => by have := hs k hS; omega)⟩

def POwn.shift (d : Int) (p : POwn) : POwn := { p with T := fun j => wrap64 (p.T j + d) }
def ROwn.shift (d : Int) (r : ROwn) : ROwn := { r with F := fun j => wrap64 (r.F j + d) }
def StOwn.shift (d : Int) (s : StOwn) : StOwn :=
  { s with last := wrap64 (s.last + d), U := s.U.shift d, D := s.D.shift d, C := s.C.shift d, R := s.R.shift d, bst := if s.bur then wrap64 (s.bst + d) else s.bst, lost := if s.isl then wrap64 (s.lost + d) else s.lost }

/-- the state's own thirteen cells -/
def StOwn.cellL (s : StOwn) : List Value := [.int .i64 s.cur, .int .i64 s.last, .bool s.dec, .slice s.U.a s.U.n s.U.n, .slice s.D.a s.D.n s.D.n, .slice s.C.a s.C.n s.C.n, .int .i64 s.bef, .int .i64 s.idle, .slice s.R.a s.R.n s.R.n, .int .i64 s.bst, .bool s.bur, .int .i64 s.lost, .bool s.isl]
def StOwn.At (s : StOwn) (w : World) (b : Nat) : Prop := w.rowIs b 37 13 (fun i => s.cellL.getD i undef)
theorem StOwn.At.cells {s : StOwn} {w : World} {b : Nat} (h : s.At w b) :
    cells13 w b (.int .i64 s.cur) (.int .i64 s.last) (.bool s.dec) (.slice s.U.a s.U.n s.U.n) (.slice s.D.a s.D.n s.D.n) (.slice s.C.a s.C.n s.C.n) (.int .i64 s.bef) (.int .i64 s.idle) (.slice s.R.a s.R.n s.R.n) (.int .i64 s.bst) (.bool s.bur) (.int .i64 s.lost) (.bool s.isl) :=
  ⟨World.rowIs.cell h (i := 0) (by omega), World.rowIs.cell h (i := 1) (by omega), World.rowIs.cell h (i := 2) (by omega), World.rowIs.cell h (i := 3) (by omega), World.rowIs.cell h (i := 4) (by omega), World.rowIs.cell h (i := 5) (by omega), World.rowIs.cell h (i := 6) (by omega), World.rowIs.cell h (i := 7) (by omega), World.rowIs.cell h (i := 8) (by omega), World.rowIs.cell h (i := 9) (by omega), World.rowIs.cell h (i := 10) (by omega), World.rowIs.cell h (i := 11) (by omega), World.rowIs.cell h (i := 12) (by omega)⟩
theorem lt13 (i : Nat) (h : i < 13) : i = 0 ∨ i = 1 ∨ i = 2 ∨ i = 3 ∨ i = 4 ∨ i = 5 ∨ i = 6 ∨ i = 7 ∨ i = 8 ∨ i = 9 ∨ i = 10 ∨ i = 11 ∨ i = 12 := by omega
/-- a store into one of the thirteen -/
theorem StOwn.At.set {s s' : StOwn} {w : World} {b : Nat} (h : s.At w b) (k : Nat) (v : Value) (e : ∀ i, i < 13 → (if i = k then v else s.cellL.getD i undef) = s'.cellL.getD i undef) : s'.At (w.setCell ⟨b, k, none⟩ v) b :=
  World.rowIs.congr (World.rowIs.set h k v) e
theorem StOwn.At.new (s : StOwn) (w : World) : s.At (w.alloc (.cells #[.int .i64 s.cur, .int .i64 s.last, .bool s.dec, .slice s.U.a s.U.n s.U.n, .slice s.D.a s.D.n s.D.n, .slice s.C.a s.C.n s.C.n, .int .i64 s.bef, .int .i64 s.idle, .slice s.R.a s.R.n s.R.n, .int .i64 s.bst, .bool s.bur, .int .i64 s.lost, .bool s.isl] 37)) w.heap.size := by
  refine World.rowIs_alloc w _ 37 _ ?_
  intro i hi
  rcases lt13 i hi with h | h | h | h | h | h | h | h | h | h | h | h | h <;> subst h <;> rfl
theorem StOwn.At.set_last {s : StOwn} {w : World} {b : Nat} (h : s.At w b) (x : Int) : ({ s with last := x } : StOwn).At (w.setCell ⟨b, 1, none⟩ (.int .i64 x)) b :=
  h.set 1 _ (by intro i hi; rcases lt13 i hi with h | h | h | h | h | h | h | h | h | h | h | h | h <;> subst h <;> rfl)
theorem StOwn.At.set_bst {s : StOwn} {w : World} {b : Nat} (h : s.At w b) (x : Int) : ({ s with bst := x } : StOwn).At (w.setCell ⟨b, 9, none⟩ (.int .i64 x)) b :=
  h.set 9 _ (by intro i hi; rcases lt13 i hi with h | h | h | h | h | h | h | h | h | h | h | h | h <;> subst h <;> rfl)
theorem StOwn.At.set_lost {s : StOwn} {w : World} {b : Nat} (h : s.At w b) (x : Int) : ({ s with lost := x } : StOwn).At (w.setCell ⟨b, 11, none⟩ (.int .i64 x)) b :=
  h.set 11 _ (by intro i hi; rcases lt13 i hi with h | h | h | h | h | h | h | h | h | h | h | h | h <;> subst h <;> rfl)

/-- the points of a row, the first m of them shifted -/
def partT (T : Nat → Int) (d : Int) (m : Nat) : Nat → Int := fun j => if j < m then wrap64 (T j + d) else T j

theorem copied_at0 (T N : Nat → Int) (n k : Nat) (h : k < n) : copied T N n (k * 2) = .int .i64 (T k) := by
  simp only [copied]
  rw [if_pos (by omega), if_pos (by omega), show k * 2 / 2 = k by omega]

theorem copied_shift (T N : Nat → Int) (d : Int) (w : World) (g n k : Nat) (hk : k < n) (h : w.rowIs g 63 (n * 2) (copied (partT T d k) N n)) :
    (w.setCell ⟨g, k * 2, none⟩ (.int .i64 (wrap64 (T k + d)))).rowIs g 63 (n * 2) (copied (partT T d (k + 1)) N n) := by
  refine (h.set (k * 2) _).congr ?_
  intro i hi
  by_cases h1 : i = k * 2
  · subst h1
    rw [if_pos rfl, copied_at0 _ _ _ _ hk]
    simp [partT]
  · rw [if_neg h1]
    simp only [copied]
    by_cases h2 : i / 2 < n
    · rw [if_pos h2, if_pos h2]
      by_cases h3 : i % 2 = 0
      · rw [if_pos h3, if_pos h3]
        have h4 : i / 2 ≠ k := by omega
        simp only [partT]
        by_cases h5 : i / 2 < k
        · rw [if_pos h5, if_pos (show i / 2 < k + 1 by omega)]
        · rw [if_neg h5, if_neg (show ¬ i / 2 < k + 1 by omega)]
      · rw [if_neg h3, if_neg h3]
    · rw [if_neg h2, if_neg h2]

theorem copied_full (T N : Nat → Int) (d : Int) (n i : Nat) : copied (partT T d n) N n i = copied (fun j => wrap64 (T j + d)) N n i := by
  simp only [copied]
  by_cases h2 : i / 2 < n
  · rw [if_pos h2, if_pos h2]; simp only [partT]; rw [if_pos h2]
  · rw [if_neg h2, if_neg h2]

theorem runCell_shift (S F E : Nat → Int) (B : Nat → FOwn) (d : Int) (w : World) (g n k : Nat) (h : w.rowIs g 43 (n * 4) (runCell S (partT F d k) E B n)) :
    (w.setCell ⟨g, k * 4 + 1, none⟩ (.int .i64 (wrap64 (F k + d)))).rowIs g 43 (n * 4) (runCell S (partT F d (k + 1)) E B n) := by
  refine (h.set (k * 4 + 1) _).congr ?_
  intro i hi
  have hi4 : i / 4 < n := by omega
  unfold runCell
  rw [if_pos hi4, if_pos hi4]
  by_cases h1 : i = k * 4 + 1
  · subst h1
    have e : (k * 4 + 1) / 4 = k := by omega
    rw [if_pos rfl, if_neg (by omega), if_pos (by omega), e]
    simp [partT]
  · rw [if_neg h1]
    by_cases h2 : i % 4 = 1
    · rw [if_neg (by omega), if_pos h2, if_neg (by omega), if_pos h2]
      have h4 : i / 4 ≠ k := by omega
      simp only [partT]
      by_cases h5 : i / 4 < k
      · rw [if_pos h5, if_pos (show i / 4 < k + 1 by omega)]
      · rw [if_neg h5, if_neg (show ¬ i / 4 < k + 1 by omega)]
    · by_cases h0 : i % 4 = 0
      · rw [if_pos h0, if_pos h0]
      · rw [if_neg h0, if_neg h2, if_neg h0, if_neg h2]

theorem runCell_full (S F E : Nat → Int) (B : Nat → FOwn) (d : Int) (n i : Nat) (hi : i < n * 4) : runCell S (partT F d n) E B n i = runCell S (fun j => wrap64 (F j + d)) E B n i := by
  have hi4 : i / 4 < n := by omega
  unfold runCell
  rw [if_pos hi4, if_pos hi4]
  simp only [partT]
  rw [if_pos hi4]
end Go.Proofs.Qxb6605212a
