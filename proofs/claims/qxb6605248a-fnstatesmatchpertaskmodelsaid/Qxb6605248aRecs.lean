/- zzMakeRecords, walked. -/
import Derived.Test.Qxb6605248aGates
import Derived.Deep.MidRow
set_option linter.unusedVariables false
namespace Go.Proofs.Qxb6605248a
open Go.RowKit

/-- a record -/
structure Rec where
  task : ByteArray
  gate : Option Addr
  disp : Bool
  att : Int
  ver : Bool
  ev : ByteArray
  pid : Int
  boot : ByteArray
  start : Int
  sess : Int
  reason : ByteArray
def Rec.cells (q : Rec) : List Value := [.string q.task, .pointer q.gate, .bool q.disp, .int .i64 q.att, .bool q.ver, .string q.ev, .int .i64 q.pid, .string q.boot, .int .u64 q.start, .int .i64 q.sess, .string q.reason]
def Rec.zero : Rec := ⟨⟨#[]⟩, none, false, 0, false, ⟨#[]⟩, 0, ⟨#[]⟩, 0, 0, ⟨#[]⟩⟩
theorem Rec.len (q : Rec) : q.cells.length = 11 := rfl
theorem Rec.one (q : Rec) : ∀ v ∈ q.cells, v.oneCell' = true := by
  intro v hv
  simp only [Rec.cells, List.mem_cons, List.mem_nil_iff, or_false] at hv
  rcases hv with h | h | h | h | h | h | h | h | h | h | h <;> subst h <;> rfl
/-- the record lies alone in block b -/
def Rec.At (q : Rec) (w : World) (b : Nat) : Prop := w.rowIs b 41 11 (fun i => q.cells.getD i undef)
theorem lt11 (i : Nat) (h : i < 11) : i = 0 ∨ i = 1 ∨ i = 2 ∨ i = 3 ∨ i = 4 ∨ i = 5 ∨ i = 6 ∨ i = 7 ∨ i = 8 ∨ i = 9 ∨ i = 10 := by omega
theorem Rec.At.set {q q' : Rec} {w : World} {b : Nat} (h : q.At w b) (k : Nat) (v : Value) (e : ∀ i, i < 11 → (if i = k then v else q.cells.getD i undef) = q'.cells.getD i undef) : q'.At (w.setCell ⟨b, k, none⟩ v) b :=
  World.rowIs.congr (World.rowIs.set h k v) e
theorem Rec.At.set_task {q : Rec} {w : World} {b : Nat} (h : q.At w b) (x : ByteArray) : ({ q with task := x } : Rec).At (w.setCell ⟨b, 0, none⟩ (.string x)) b :=
  h.set _ _ (fun i hi => by rcases lt11 i hi with h | h | h | h | h | h | h | h | h | h | h <;> subst h <;> rfl)
theorem Rec.At.set_gate {q : Rec} {w : World} {b : Nat} (h : q.At w b) (x : Option Addr) : ({ q with gate := x } : Rec).At (w.setCell ⟨b, 1, none⟩ (.pointer x)) b :=
  h.set _ _ (fun i hi => by rcases lt11 i hi with h | h | h | h | h | h | h | h | h | h | h <;> subst h <;> rfl)
theorem Rec.At.set_disp {q : Rec} {w : World} {b : Nat} (h : q.At w b) (x : Bool) : ({ q with disp := x } : Rec).At (w.setCell ⟨b, 2, none⟩ (.bool x)) b :=
  h.set _ _ (fun i hi => by rcases lt11 i hi with h | h | h | h | h | h | h | h | h | h | h <;> subst h <;> rfl)
theorem Rec.At.set_att {q : Rec} {w : World} {b : Nat} (h : q.At w b) (x : Int) : ({ q with att := x } : Rec).At (w.setCell ⟨b, 3, none⟩ (.int .i64 x)) b :=
  h.set _ _ (fun i hi => by rcases lt11 i hi with h | h | h | h | h | h | h | h | h | h | h <;> subst h <;> rfl)
theorem Rec.At.set_ver {q : Rec} {w : World} {b : Nat} (h : q.At w b) (x : Bool) : ({ q with ver := x } : Rec).At (w.setCell ⟨b, 4, none⟩ (.bool x)) b :=
  h.set _ _ (fun i hi => by rcases lt11 i hi with h | h | h | h | h | h | h | h | h | h | h <;> subst h <;> rfl)
theorem Rec.At.set_ev {q : Rec} {w : World} {b : Nat} (h : q.At w b) (x : ByteArray) : ({ q with ev := x } : Rec).At (w.setCell ⟨b, 5, none⟩ (.string x)) b :=
  h.set _ _ (fun i hi => by rcases lt11 i hi with h | h | h | h | h | h | h | h | h | h | h <;> subst h <;> rfl)
theorem Rec.At.set_pid {q : Rec} {w : World} {b : Nat} (h : q.At w b) (x : Int) : ({ q with pid := x } : Rec).At (w.setCell ⟨b, 6, none⟩ (.int .i64 x)) b :=
  h.set _ _ (fun i hi => by rcases lt11 i hi with h | h | h | h | h | h | h | h | h | h | h <;> subst h <;> rfl)
theorem Rec.At.set_boot {q : Rec} {w : World} {b : Nat} (h : q.At w b) (x : ByteArray) : ({ q with boot := x } : Rec).At (w.setCell ⟨b, 7, none⟩ (.string x)) b :=
  h.set _ _ (fun i hi => by rcases lt11 i hi with h | h | h | h | h | h | h | h | h | h | h <;> subst h <;> rfl)
theorem Rec.At.set_start {q : Rec} {w : World} {b : Nat} (h : q.At w b) (x : Int) : ({ q with start := x } : Rec).At (w.setCell ⟨b, 8, none⟩ (.int .u64 x)) b :=
  h.set _ _ (fun i hi => by rcases lt11 i hi with h | h | h | h | h | h | h | h | h | h | h <;> subst h <;> rfl)
theorem Rec.At.set_sess {q : Rec} {w : World} {b : Nat} (h : q.At w b) (x : Int) : ({ q with sess := x } : Rec).At (w.setCell ⟨b, 9, none⟩ (.int .i64 x)) b :=
  h.set _ _ (fun i hi => by rcases lt11 i hi with h | h | h | h | h | h | h | h | h | h | h <;> subst h <;> rfl)
theorem Rec.At.set_reason {q : Rec} {w : World} {b : Nat} (h : q.At w b) (x : ByteArray) : ({ q with reason := x } : Rec).At (w.setCell ⟨b, 10, none⟩ (.string x)) b :=
  h.set _ _ (fun i hi => by rcases lt11 i hi with h | h | h | h | h | h | h | h | h | h | h <;> subst h <;> rfl)
theorem Rec.At.new (w : World) : Rec.zero.At (w.alloc (.cells #[.string ⟨#[]⟩, .pointer none, .bool false, .int .i64 0, .bool false, .string ⟨#[]⟩, .int .i64 0, .string ⟨#[]⟩, .int .u64 0, .int .i64 0, .string ⟨#[]⟩] 41)) w.heap.size := by
  refine World.rowIs_alloc w _ 41 _ ?_
  intro i hi
  rcases lt11 i hi with h | h | h | h | h | h | h | h | h | h | h <;> subst h <;> rfl

/-- where a slice lies -/
structure Sl where
  a : Option Addr
  n : Nat
  c : Nat
  b : Nat
  o : Nat
/-- the eleven slices -/
structure Recs where
  A : Sl
  T : Nat → ByteArray
  B : Sl
  P : Nat → Option Addr
  C : Sl
  Di : Nat → Bool
  D : Sl
  At : Nat → Int
  E : Sl
  Ve : Nat → Bool
  F : Sl
  Ev : Nat → ByteArray
  G : Sl
  Pi : Nat → Int
  I : Sl
  Bo : Nat → ByteArray
  J : Sl
  Sta : Nat → Int
  K : Sl
  Se : Nat → Int
  L : Sl
  Re : Nat → ByteArray
def Recs.In (r : Recs) (w : World) : Prop := Row w r.A.a r.A.n r.A.b r.A.o (fun j => .string (r.T j)) ∧ Row w r.B.a r.B.n r.B.b r.B.o (fun j => .pointer (r.P j)) ∧ Row w r.C.a r.C.n r.C.b r.C.o (fun j => .bool (r.Di j)) ∧ Row w r.D.a r.D.n r.D.b r.D.o (fun j => .int .i64 (r.At j)) ∧ Row w r.E.a r.E.n r.E.b r.E.o (fun j => .bool (r.Ve j)) ∧ Row w r.F.a r.F.n r.F.b r.F.o (fun j => .string (r.Ev j)) ∧ Row w r.G.a r.G.n r.G.b r.G.o (fun j => .int .i64 (r.Pi j)) ∧ Row w r.I.a r.I.n r.I.b r.I.o (fun j => .string (r.Bo j)) ∧ Row w r.J.a r.J.n r.J.b r.J.o (fun j => .int .u64 (r.Sta j)) ∧ Row w r.K.a r.K.n r.K.b r.K.o (fun j => .int .i64 (r.Se j)) ∧ Row w r.L.a r.L.n r.L.b r.L.o (fun j => .string (r.Re j))
theorem Recs.In.later {r : Recs} {w w' : World} (h : r.In w) (hb : Below w.heap.size w w') : r.In w' := by
  obtain ⟨hA, hB, hC, hD, hE, hF, hG, hI, hJ, hK, hL⟩ := h
  exact ⟨hA.later hb, hB.later hb, hC.later hb, hD.later hb, hE.later hb, hF.later hb, hG.later hb, hI.later hb, hJ.later hb, hK.later hb, hL.later hb⟩
/-- record j -/
def Recs.at (r : Recs) (j : Nat) : Rec where
  task := if j < r.A.n then r.T j else ⟨#[]⟩
  gate := if j < r.B.n then r.P j else none
  disp := if j < r.C.n then r.Di j else false
  att := if j < r.D.n then r.At j else 0
  ver := if j < r.E.n then r.Ve j else false
  ev := r.Ev j
  pid := if j < r.G.n then r.Pi j else 0
  boot := if j < r.I.n then r.Bo j else ⟨#[]⟩
  start := if j < r.J.n then r.Sta j else 0
  sess := if j < r.K.n then r.Se j else 0
  reason := if j < r.L.n then r.Re j else ⟨#[]⟩
def Recs.args (r : Recs) : Array Value := #[.slice r.A.a r.A.n r.A.c, .slice r.B.a r.B.n r.B.c, .slice r.C.a r.C.n r.C.c, .slice r.D.a r.D.n r.D.c, .slice r.E.a r.E.n r.E.c, .slice r.F.a r.F.n r.F.c, .slice r.G.a r.G.n r.G.c, .slice r.I.a r.I.n r.I.c, .slice r.J.a r.J.n r.J.c, .slice r.K.a r.K.n r.K.c, .slice r.L.a r.L.n r.L.c]

/-- n records lie in block g -/
def RecRow (w : World) (g n : Nat) (rc : Nat → Rec) : Prop := ∀ j, j < n → w.rangeAt g (j * 11) (rc j).cells
def recCell (rc : Nat → Rec) (k i : Nat) : Value := if i / 11 < k then (rc (i / 11)).cells.getD (i % 11) undef else Rec.zero.cells.getD (i % 11) undef
theorem rowIs_setCells {b : Nat} {t : TypeId} {n : Nat} : ∀ (vs : List Value) (o : Nat) (w : World) (f : Nat → Value), w.rowIs b t n f → (w.setCells b o vs).rowIs b t n (fun i => if o ≤ i ∧ i < o + vs.length then vs.getD (i - o) undef else f i)
  | [], o, w, f, h => by
    refine World.rowIs.congr h (fun i _ => ?_)
    rw [if_neg (by simp)]
  | v :: r, o, w, f, h => by
    rw [World.setCells]
    refine World.rowIs.congr (rowIs_setCells r (o + 1) _ _ (World.rowIs.set h o v)) (fun i _ => ?_)
    by_cases h1 : i = o
    · subst h1
      have h2 : i ≤ i ∧ i < i + (v :: r).length := ⟨Nat.le_refl _, by simp⟩
      have h3 : ¬ (i + 1 ≤ i ∧ i < i + 1 + r.length) := by omega
      rw [if_pos h2, if_neg h3, if_pos rfl]
      simp
    · by_cases h2 : o + 1 ≤ i ∧ i < o + 1 + r.length
      · have h3 : o ≤ i ∧ i < o + (v :: r).length := ⟨by omega, by simp; omega⟩
        rw [if_pos h2, if_pos h3]
        have e : i - o = (i - (o + 1)) + 1 := by omega
        rw [e]
        simp
      · have h3 : ¬ (o ≤ i ∧ i < o + (v :: r).length) := by simp; omega
        rw [if_neg h2, if_neg h3, if_neg h1]
theorem recCell_step (rc : Nat → Rec) (w : World) (g n k : Nat) (h : w.rowIs g 41 (n * 11) (recCell rc k)) : (w.setCells g (k * 11) (rc k).cells).rowIs g 41 (n * 11) (recCell rc (k + 1)) := by
  refine World.rowIs.congr (rowIs_setCells _ _ _ _ h) (fun i _ => ?_)
  rw [Rec.len]
  by_cases h1 : i / 11 = k
  · have h2 : k * 11 ≤ i ∧ i < k * 11 + 11 := by omega
    rw [if_pos h2]
    unfold recCell
    rw [if_pos (by omega), h1, show i - k * 11 = i % 11 by omega]
  · have h2 : ¬ (k * 11 ≤ i ∧ i < k * 11 + 11) := by omega
    rw [if_neg h2]
    unfold recCell
    by_cases h3 : i / 11 < k
    · rw [if_pos h3, if_pos (by omega)]
    · rw [if_neg h3, if_neg (by omega)]
theorem recRow_of {rc : Nat → Rec} {w : World} {g n : Nat} (h : w.rowIs g 41 (n * 11) (recCell rc n)) : RecRow w g n rc := by
  intro j hj i v hv
  have hi : i < 11 := by
    have := (List.getElem?_eq_some_iff.1 hv).1
    rwa [Rec.len] at this
  have h1 := h.cell (i := j * 11 + i) (by omega)
  rw [h1]
  unfold recCell
  rw [if_pos (by omega), show (j * 11 + i) / 11 = j by omega, show (j * 11 + i) % 11 = i by omega]
  rw [List.getD_eq_getElem?_getD, hv]
  rfl
theorem below_setCells (B b : Nat) : ∀ (vs : List Value) (o : Nat) (w : World), B ≤ b → Below B w (w.setCells b o vs)
  | [], o, w, h => Below.refl _ _
  | v :: r, o, w, h => by
    rw [World.setCells]
    exact ((Below.refl B w).setCell (by exact h) v).trans (below_setCells B b r (o + 1) _ h)
theorem info41 : (Try.prog.info? 41).map (fun i => (i.zero, i.size, i.bytes)) = some (some (.agg #[.string ⟨#[]⟩, .pointer none, .bool false, .int .i64 0, .bool false, .string ⟨#[]⟩, .int .i64 0, .string ⟨#[]⟩, .int .u64 0, .int .i64 0, .string ⟨#[]⟩]), 11, 120) := by kernel_rfl
theorem size41 : (Try.prog.info? 41).map (·.size) = some 11 := by kernel_rfl

def Rec.fA (q : Rec) (k n : Nat) (x : Nat → ByteArray) : Rec := { q with task := if k < n then x k else q.task }
theorem Rec.fA_yes (q : Rec) (k n : Nat) (x : Nat → ByteArray) (h : k < n) : q.fA k n x = { q with task := x k } := by simp [Rec.fA, h]
theorem Rec.fA_no (q : Rec) (k n : Nat) (x : Nat → ByteArray) (h : ¬ k < n) : q.fA k n x = q := by simp [Rec.fA, h]
def Rec.fB (q : Rec) (k n : Nat) (x : Nat → Option Addr) : Rec := { q with gate := if k < n then x k else q.gate }
theorem Rec.fB_yes (q : Rec) (k n : Nat) (x : Nat → Option Addr) (h : k < n) : q.fB k n x = { q with gate := x k } := by simp [Rec.fB, h]
theorem Rec.fB_no (q : Rec) (k n : Nat) (x : Nat → Option Addr) (h : ¬ k < n) : q.fB k n x = q := by simp [Rec.fB, h]
def Rec.fC (q : Rec) (k n : Nat) (x : Nat → Bool) : Rec := { q with disp := if k < n then x k else q.disp }
theorem Rec.fC_yes (q : Rec) (k n : Nat) (x : Nat → Bool) (h : k < n) : q.fC k n x = { q with disp := x k } := by simp [Rec.fC, h]
theorem Rec.fC_no (q : Rec) (k n : Nat) (x : Nat → Bool) (h : ¬ k < n) : q.fC k n x = q := by simp [Rec.fC, h]
def Rec.fD (q : Rec) (k n : Nat) (x : Nat → Int) : Rec := { q with att := if k < n then x k else q.att }
theorem Rec.fD_yes (q : Rec) (k n : Nat) (x : Nat → Int) (h : k < n) : q.fD k n x = { q with att := x k } := by simp [Rec.fD, h]
theorem Rec.fD_no (q : Rec) (k n : Nat) (x : Nat → Int) (h : ¬ k < n) : q.fD k n x = q := by simp [Rec.fD, h]
def Rec.fE (q : Rec) (k n : Nat) (x : Nat → Bool) : Rec := { q with ver := if k < n then x k else q.ver }
theorem Rec.fE_yes (q : Rec) (k n : Nat) (x : Nat → Bool) (h : k < n) : q.fE k n x = { q with ver := x k } := by simp [Rec.fE, h]
theorem Rec.fE_no (q : Rec) (k n : Nat) (x : Nat → Bool) (h : ¬ k < n) : q.fE k n x = q := by simp [Rec.fE, h]
def Rec.fG (q : Rec) (k n : Nat) (x : Nat → Int) : Rec := { q with pid := if k < n then x k else q.pid }
theorem Rec.fG_yes (q : Rec) (k n : Nat) (x : Nat → Int) (h : k < n) : q.fG k n x = { q with pid := x k } := by simp [Rec.fG, h]
theorem Rec.fG_no (q : Rec) (k n : Nat) (x : Nat → Int) (h : ¬ k < n) : q.fG k n x = q := by simp [Rec.fG, h]
def Rec.fI (q : Rec) (k n : Nat) (x : Nat → ByteArray) : Rec := { q with boot := if k < n then x k else q.boot }
theorem Rec.fI_yes (q : Rec) (k n : Nat) (x : Nat → ByteArray) (h : k < n) : q.fI k n x = { q with boot := x k } := by simp [Rec.fI, h]
theorem Rec.fI_no (q : Rec) (k n : Nat) (x : Nat → ByteArray) (h : ¬ k < n) : q.fI k n x = q := by simp [Rec.fI, h]
def Rec.fJ (q : Rec) (k n : Nat) (x : Nat → Int) : Rec := { q with start := if k < n then x k else q.start }
theorem Rec.fJ_yes (q : Rec) (k n : Nat) (x : Nat → Int) (h : k < n) : q.fJ k n x = { q with start := x k } := by simp [Rec.fJ, h]
theorem Rec.fJ_no (q : Rec) (k n : Nat) (x : Nat → Int) (h : ¬ k < n) : q.fJ k n x = q := by simp [Rec.fJ, h]
def Rec.fK (q : Rec) (k n : Nat) (x : Nat → Int) : Rec := { q with sess := if k < n then x k else q.sess }
theorem Rec.fK_yes (q : Rec) (k n : Nat) (x : Nat → Int) (h : k < n) : q.fK k n x = { q with sess := x k } := by simp [Rec.fK, h]
theorem Rec.fK_no (q : Rec) (k n : Nat) (x : Nat → Int) (h : ¬ k < n) : q.fK k n x = q := by simp [Rec.fK, h]
def Rec.fL (q : Rec) (k n : Nat) (x : Nat → ByteArray) : Rec := { q with reason := if k < n then x k else q.reason }
theorem Rec.fL_yes (q : Rec) (k n : Nat) (x : Nat → ByteArray) (h : k < n) : q.fL k n x = { q with reason := x k } := by simp [Rec.fL, h]
theorem Rec.fL_no (q : Rec) (k n : Nat) (x : Nat → ByteArray) (h : ¬ k < n) : q.fL k n x = q := by simp [Rec.fL, h]
end Go.Proofs.Qxb6605248a
