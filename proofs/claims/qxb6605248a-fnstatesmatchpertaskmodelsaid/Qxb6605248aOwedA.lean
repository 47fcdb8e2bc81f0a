/- Owed: what it computes; Plan.Index walked. -/
import Derived.Test.Qxb6605248aPlan
set_option linter.unusedVariables false
namespace Go.Proofs.Qxb6605248a
open Go.RowKit Go.Maps

def idxOf (F : Lit → Option Value) (s : ByteArray) : Int := match F (.string s.data.toList) with | some (.int _ i) => i | _ => -1

set_option maxHeartbeats 1000000 in
theorem index36 (p : Pl) (s : ByteArray) (w : World) (hp : p.At w) (hs : s.size ≤ maxLen) :
    Calls Try.prog 36 #[.pointer (some ⟨p.pb, 0, none⟩), .string s] w fun e w' => e = .returned (.int .i64 (idxOf p.F s)) ∧ (idxOf p.F s = -1 ∨ ∃ i : Nat, i < p.n ∧ idxOf p.F s = i) ∧ w' = w := by
  obtain ⟨pb, g, mb, n, I, Ph, F⟩ := p
  obtain ⟨h1, h2, h3, h4, h5⟩ := hp
  simp only at *
  have HM : Hid (MapIs w 9 mb n F) := h4
  have HK : Hid (keyOf Try.prog 9 (.string s) = some (.string s.data.toList)) := WideMaps.keyOf_string_mk Try.underlying9 hs
  clear h3 h4
  cases hf : F (.string s.data.toList) with
  | none =>
    have e : idxOf F s = -1 := by simp [idxOf, hf]
    have HF : Hid (F (.string s.data.toList) = none) := hf
    rw [e]
    go_enter Try.func36, Try.ntmps36
    go_wp2_with (first | (refine wpList_look_ok rfl _ _ 68 rfl 9 3 law9 Try.underlying68 (.int .i64 0) (zero3 _) mb n F rfl HM.out (.string s) _ rfl HK.out ?_; rw [HF.out]))
    go_ret
    exact ⟨rfl, .inl (by first | rfl | trivial), rfl⟩
  | some v =>
    obtain ⟨i, hi, rfl⟩ := h5 _ _ hf
    have e : idxOf F s = (i : Int) := by simp [idxOf, hf]
    have HF : Hid (F (.string s.data.toList) = some (.int .i64 (i : Nat))) := hf
    rw [e]
    go_enter Try.func36, Try.ntmps36
    go_wp2_with (first | (refine wpList_look_ok rfl _ _ 68 rfl 9 3 law9 Try.underlying68 (.int .i64 0) (zero3 _) mb n F rfl HM.out (.string s) _ rfl HK.out ?_; rw [HF.out]))
    go_ret
    exact ⟨rfl, .inr ⟨i, hi, rfl⟩, rfl⟩

def setB (f : Int → Bool) (x : Int) (b : Bool) (y : Int) : Bool := if y = x then b else f y
/-- what one record does -/
def owedStep (p : Pl) (f : Int → Bool) (q : Rec) (gv : Int) : Int → Bool :=
  if q.ev = finS then (match q.gate with | some _ => setB f gv false | none => if 0 ≤ idxOf p.F q.task then setB f (p.Ph (idxOf p.F q.task).toNat) true else f)
  else if q.ev = dueS then setB f gv true else f
theorem step_fin_some (p : Pl) (f : Int → Bool) (q : Rec) (gv : Int) (a : Addr) (h1 : q.ev = finS) (h2 : q.gate = some a) : owedStep p f q gv = setB f gv false := by
  unfold owedStep
  rw [if_pos h1, h2]
theorem step_fin_yes (p : Pl) (f : Int → Bool) (q : Rec) (gv : Int) (i : Nat) (h1 : q.ev = finS) (h2 : q.gate = none) (h3 : idxOf p.F q.task = i) : owedStep p f q gv = setB f (p.Ph i) true := by
  unfold owedStep
  rw [if_pos h1, h2]
  simp only
  rw [h3, if_pos (by omega)]
  rfl
theorem step_fin_no (p : Pl) (f : Int → Bool) (q : Rec) (gv : Int) (h1 : q.ev = finS) (h2 : q.gate = none) (h3 : idxOf p.F q.task = -1) : owedStep p f q gv = f := by
  unfold owedStep
  rw [if_pos h1, h2]
  simp only
  rw [h3, if_neg (by omega)]
theorem step_due (p : Pl) (f : Int → Bool) (q : Rec) (gv : Int) (h1 : q.ev = dueS) : owedStep p f q gv = setB f gv true := by
  unfold owedStep
  rw [if_neg (by rw [h1]; decide), if_pos h1]
theorem step_other (p : Pl) (f : Int → Bool) (q : Rec) (gv : Int) (h1 : ¬ q.ev = finS) (h2 : ¬ q.ev = dueS) : owedStep p f q gv = f := by
  unfold owedStep
  rw [if_neg h1, if_neg h2]
def owedF (p : Pl) (rc : Nat → Rec) (G : Nat → Int) : Nat → Int → Bool
  | 0 => fun _ => false
  | k + 1 => owedStep p (owedF p rc G k) (rc k) (G k)
/-- the sweep over the tasks -/
def sweep (Ph : Nat → Int) (f : Int → Bool) : Nat → List Int × (Int → Bool)
  | 0 => ([], f)
  | k + 1 => if (sweep Ph f k).2 (Ph k) = true then ((sweep Ph f k).1 ++ [Ph k], setB (sweep Ph f k).2 (Ph k) false) else sweep Ph f k
theorem sweep_len (Ph : Nat → Int) (f : Int → Bool) (k : Nat) : (sweep Ph f k).1.length ≤ k := by
  induction k with
  | zero => simp [sweep]
  | succ k ih =>
    unfold sweep
    split
    · simp; omega
    · omega

/-- F holds f -/
def Good (F : Lit → Option Value) (f : Int → Bool) : Prop := ∀ x, (F (.int .i64 x)).getD (.bool false) = .bool (f x)
theorem Good.put {F : Lit → Option Value} {f : Int → Bool} (h : Good F f) (x : Int) (b : Bool) : Good (putF F (.int .i64 x) (.bool b)) (setB f x b) := by
  intro y
  unfold putF setB
  by_cases e : y = x
  · subst e
    rw [if_pos (WideAt.sameKey_self (by trivial)), if_pos rfl]
    rfl
  · rw [if_neg (by rw [Maps.sameKey_ne (by intro h; cases h; exact e rfl)]; simp), if_neg e]
    exact h y

section
variable {w : World} {ops : Array Oper} {rest : List Oper} {o : Oper} {a : Act} {Q : Exit → Act → World → Prop}
theorem wpList_look_v (hg : o.guard = none) (m x : Operand) (t : TypeId) (hop : o.op = Op.lookup t m x false) (k e : TypeId) (K : Keyed Try.prog k) (ht : Try.prog.underlying t = some (.map k e)) (z : Value) (hz : (zeroValue e).run Try.prog w = .ok z w)
    (b n : Nat) (f : Lit → Option Value) (hm : a.eval m = .map (some b)) (h : MapIs w k b n f) (key : Value) (kl : Lit) (hx : a.eval x = key) (hkey : keyOf Try.prog k key = some kl) (v : Value) (hv : (f kl).getD z = v)
    (hK : wpList Try.prog ops Q rest (a.put o.dst v) w) : wpList Try.prog ops Q (o :: rest) a w :=
  wpList_look hg m x t hop k e K ht z hz b n f hm h key kl hx hkey (by rw [hv]; exact hK)
end

theorem Pl.At.task4 {p : Pl} {w : World} (h : p.At w) (i : Nat) (hi : i < p.n) : w.cell? ⟨p.g, i * 15 + 4, none⟩ = some (.int .i64 (p.Ph i)) := by
  have h1 := h.2.2.1.cell (i := i * 15 + 4) (by omega)
  rw [h1]
  unfold taskCell
  rw [if_pos (by omega), show (i * 15 + 4) / 15 = i by omega, show (i * 15 + 4) % 15 = 4 by omega]
  rfl
theorem Pl.At.taskC {p : Pl} {w : World} (h : p.At w) (i : Nat) (hi : i < p.n) (t : Nat) (ht : t < 15) (v : Value) (hv : (taskL (p.I i) (p.Ph i)).getD t undef = v) : w.cell? ⟨p.g, i * 15 + t, none⟩ = some v := by
  have h1 := h.2.2.1.cell (i := i * 15 + t) (by omega)
  rw [h1]
  unfold taskCell
  rw [if_pos (by omega), show (i * 15 + t) / 15 = i by omega, show (i * 15 + t) % 15 = t by omega, hv]
theorem Pl.At.task15 {p : Pl} {w : World} (h : p.At w) (i : Nat) (hi : i < p.n) : w.cell? ⟨p.g, i * 15, none⟩ = some (.string (p.I i)) ∧ w.cell? ⟨p.g, i * 15 + 1, none⟩ = some (.string ⟨#[]⟩) ∧ w.cell? ⟨p.g, i * 15 + 2, none⟩ = some (.string ⟨#[]⟩) ∧ w.cell? ⟨p.g, i * 15 + 3, none⟩ = some (.bool false) ∧ w.cell? ⟨p.g, i * 15 + 4, none⟩ = some (.int .i64 (p.Ph i)) ∧ w.cell? ⟨p.g, i * 15 + 5, none⟩ = some (.bool false) ∧ w.cell? ⟨p.g, i * 15 + 6, none⟩ = some (.slice none 0 0) ∧ w.cell? ⟨p.g, i * 15 + 7, none⟩ = some (.bool false) ∧ w.cell? ⟨p.g, i * 15 + 8, none⟩ = some (.slice none 0 0) ∧ w.cell? ⟨p.g, i * 15 + 9, none⟩ = some (.string ⟨#[]⟩) ∧ w.cell? ⟨p.g, i * 15 + 10, none⟩ = some (.int .i64 0) ∧ w.cell? ⟨p.g, i * 15 + 11, none⟩ = some (.int .i64 0) ∧ w.cell? ⟨p.g, i * 15 + 12, none⟩ = some (.int .i64 0) ∧ w.cell? ⟨p.g, i * 15 + 13, none⟩ = some (.int .i64 0) ∧ w.cell? ⟨p.g, i * 15 + 14, none⟩ = some (.slice none 0 0) :=
  ⟨h.taskC i hi 0 (by omega) _ rfl, h.taskC i hi 1 (by omega) _ rfl, h.taskC i hi 2 (by omega) _ rfl, h.taskC i hi 3 (by omega) _ rfl, h.taskC i hi 4 (by omega) _ rfl, h.taskC i hi 5 (by omega) _ rfl, h.taskC i hi 6 (by omega) _ rfl, h.taskC i hi 7 (by omega) _ rfl, h.taskC i hi 8 (by omega) _ rfl, h.taskC i hi 9 (by omega) _ rfl, h.taskC i hi 10 (by omega) _ rfl, h.taskC i hi 11 (by omega) _ rfl, h.taskC i hi 12 (by omega) _ rfl, h.taskC i hi 13 (by omega) _ rfl, h.taskC i hi 14 (by omega) _ rfl⟩
/-- what Owed is told of its records -/
structure OwedIn (w : World) (rg m : Nat) (rc : Nat → Rec) (G : Nat → Int) : Prop where
  row : RecRow w rg m rc
  gate : ∀ j, j < m → ∀ q, (rc j).gate = some q → w.cell? q = some (.int .i64 (G j))
  due : ∀ j, j < m → (rc j).ev = dueS → (rc j).gate ≠ none
  size : ∀ j, j < m → (rc j).task.size ≤ maxLen
  wf : ∀ j, j < m → (rc j).gate ≠ none → (Lit.int .i64 (G j)).wf = true
theorem OwedIn.later {w w' : World} {rg m : Nat} {rc : Nat → Rec} {G : Nat → Int} (h : OwedIn w rg m rc G) (hb : Below w.heap.size w w') : OwedIn w' rg m rc G :=
  ⟨fun j hj i v hv => cell_later hb (h.row j hj i v hv), fun j hj q hq => cell_later hb (h.gate j hj q hq), h.due, h.size, h.wf⟩

/-- the eleven cells of record j -/
theorem RecRow.cells {w : World} {g n : Nat} {rc : Nat → Rec} (h : RecRow w g n rc) (j : Nat) (hj : j < n) :
    w.cell? ⟨g, j * 11, none⟩ = some (.string (rc j).task) ∧ w.cell? ⟨g, j * 11 + 1, none⟩ = some (.pointer (rc j).gate) ∧ w.cell? ⟨g, j * 11 + 2, none⟩ = some (.bool (rc j).disp) ∧ w.cell? ⟨g, j * 11 + 3, none⟩ = some (.int .i64 (rc j).att) ∧
    w.cell? ⟨g, j * 11 + 4, none⟩ = some (.bool (rc j).ver) ∧ w.cell? ⟨g, j * 11 + 5, none⟩ = some (.string (rc j).ev) ∧ w.cell? ⟨g, j * 11 + 6, none⟩ = some (.int .i64 (rc j).pid) ∧ w.cell? ⟨g, j * 11 + 7, none⟩ = some (.string (rc j).boot) ∧
    w.cell? ⟨g, j * 11 + 8, none⟩ = some (.int .u64 (rc j).start) ∧ w.cell? ⟨g, j * 11 + 9, none⟩ = some (.int .i64 (rc j).sess) ∧ w.cell? ⟨g, j * 11 + 10, none⟩ = some (.string (rc j).reason) :=
  ⟨h j hj 0 _ rfl, h j hj 1 _ rfl, h j hj 2 _ rfl, h j hj 3 _ rfl, h j hj 4 _ rfl, h j hj 5 _ rfl, h j hj 6 _ rfl, h j hj 7 _ rfl, h j hj 8 _ rfl, h j hj 9 _ rfl, h j hj 10 _ rfl⟩
end Go.Proofs.Qxb6605248a
