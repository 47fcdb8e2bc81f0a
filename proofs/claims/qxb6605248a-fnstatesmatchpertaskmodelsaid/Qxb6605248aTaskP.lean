/- The prelude of the laws on States: the gates cloned. -/
import Derived.Test.Qxb6605248aTaskA
set_option linter.unusedVariables false
namespace Go.Proofs.Qxb6605248a
open Go.RowKit Go.Maps

def Recs.withB (r : Recs) (s : Sl) (P : Nat → Option Addr) : Recs := { r with B := s, P := P }
theorem Recs.In.withB {r : Recs} {w : World} (h : r.In w) (s : Sl) (P : Nat → Option Addr) (hs : Row w s.a s.n s.b s.o (fun j => .pointer (P j))) : (r.withB s P).In w := by
  obtain ⟨hA, hB, rest⟩ := h
  exact ⟨hA, hs, rest⟩
theorem withB_task (r : Recs) (s : Sl) (P : Nat → Option Addr) (h : ∀ j, j < r.A.n → (r.T j).size ≤ 1048576) (j : Nat) : ((r.withB s P).at j).task.size ≤ maxLen := by
  have e : ((r.withB s P).at j).task = if j < r.A.n then r.T j else ⟨#[]⟩ := rfl
  rw [e]
  split
  · have := h j (by assumption)
    unfold maxLen
    omega
  · exact Nat.zero_le _
theorem makeRecs (m : Nat) (hm : m ≤ 4096) (w : World) : (Instr.makeSlice 30 (.int .i64 0) (.int .i64 (m : Int))).run Try.prog w = .ok (.slice (some ⟨w.heap.size, 0, none⟩) 0 m) (w.alloc (.cells (madeCells #[.string ⟨#[]⟩, .pointer none, .bool false, .int .i64 0, .bool false, .string ⟨#[]⟩, .int .i64 0, .string ⟨#[]⟩, .int .u64 0, .int .i64 0, .string ⟨#[]⟩] (m * 11)) 41)) := by
  obtain ⟨i0, hi, hz0, hz1, hz2⟩ := info_parts info41
  have hmk := run_make (P := Try.prog) w 30 41 i0 _ Try.underlying30 hi hz0 .i64 .i64 0 m (by omega) (by omega) (by rw [hz2]; omega) (by omega)
  rw [hz1] at hmk
  exact hmk
theorem rangeAt_new (w : World) (q : Rec) : (w.alloc (.cells #[.string q.task, .pointer q.gate, .bool q.disp, .int .i64 q.att, .bool q.ver, .string q.ev, .int .i64 q.pid, .string q.boot, .int .u64 q.start, .int .i64 q.sess, .string q.reason] 41)).rangeAt w.heap.size 0 q.cells := by
  intro i v hv
  have hi : i < 11 := by
    have := (List.getElem?_eq_some_iff.1 hv).1
    rwa [Rec.len] at this
  rcases lt11 i hi with h | h | h | h | h | h | h | h | h | h | h <;> subst h <;> simp [Rec.cells] at hv <;> subst hv <;> simp
section
variable {w : World} {ops : Array Oper} {rest : List Oper} {o : Oper} {a : Act} {Q : Exit → Act → World → Prop}
theorem wpList_haveV (hg : o.guard = none) (m x : Operand) (hop : o.op = Op.lookup 32 m x true) (b sz : Nat) (f : ByteArray → Option St) (hm : a.eval m = .map (some b)) (h : MapN w b sz f) (s : ByteArray) (hx : a.eval x = .string s) (hs : s.size ≤ maxLen) (t : St) (ht : f s = some t) (v : Value) (hv : t.val = v)
    (hK : wpList Try.prog ops Q rest (a.put o.dst (.tuple #[v, .bool true])) w) : wpList Try.prog ops Q (o :: rest) a w :=
  wpList_haveN hg m x hop b sz f hm h s hx hs t ht (by rw [hv]; exact hK)
end
end Go.Proofs.Qxb6605248a
