/- Records appended; the map's length; look-ups. -/
import Derived.Test.Qxb6605248aStEq
import Derived.Test.Qxb6605248aStP
import Derived.Test.Qxb6605248aWithout
import Derived.Deep.DeepAppendRoom
set_option linter.unusedVariables false
namespace Go.Proofs.Qxb6605248a
open Go.RowKit Go.Maps

def flatR (L : List Rec) : List Value := L.flatMap Rec.cells
theorem flatR_len (L : List Rec) : (flatR L).length = L.length * 11 := by
  induction L with
  | nil => rfl
  | cons a r ih =>
    have : flatR (a :: r) = a.cells ++ flatR r := rfl
    rw [this, List.length_append, ih, Rec.len, List.length_cons]
    omega
theorem flatR_get (L : List Rec) : ∀ (j i : Nat) (v : Value), j < L.length → (ofL L j).cells[i]? = some v → (flatR L)[j * 11 + i]? = some v := by
  induction L with
  | nil => intro j i v hj; simp at hj
  | cons a r ih =>
    intro j i v hj hv
    have hi : i < 11 := by
      have := (List.getElem?_eq_some_iff.1 hv).1
      rwa [Rec.len] at this
    have e : flatR (a :: r) = a.cells ++ flatR r := rfl
    rw [e]
    cases j with
    | zero =>
      rw [List.getElem?_append_left (by rw [Rec.len]; omega)]
      simpa [ofL] using hv
    | succ j =>
      rw [List.getElem?_append_right (by rw [Rec.len]; omega), Rec.len, show (j + 1) * 11 + i - 11 = j * 11 + i by omega]
      exact ih j i v (by simpa using hj) (by simpa [ofL] using hv)
/-- block g is the call's own row of records, L of cap -/
def OwnRecs (w : World) (B g cap : Nat) (L : List Rec) : Prop := w.ownsRow B 41 11 (.slice (some ⟨g, 0, none⟩) L.length cap) L.length (flatR L)
theorem OwnRecs.row {w : World} {B g cap : Nat} {L : List Rec} (h : OwnRecs w B g cap L) : RecRow w g L.length (ofL L) := by
  intro j hj i v hv
  have hi : i < 11 := by
    have := (List.getElem?_eq_some_iff.1 hv).1
    rwa [Rec.len] at this
  have h1 := World.ownsRow.cellAt h (j * 11 + i) (by omega)
  rw [h1]
  exact flatR_get L j i v hj hv
theorem OwnRecs.lt {w : World} {B g cap : Nat} {L : List Rec} (h : OwnRecs w B g cap L) : g < w.heap.size := (World.ownsRow.lt h g rfl).2
theorem OwnRecs.made (w : World) (cap : Nat) (hc : cap ≤ 4096) : OwnRecs (w.alloc (.cells (madeCells #[.string ⟨#[]⟩, .pointer none, .bool false, .int .i64 0, .bool false, .string ⟨#[]⟩, .int .i64 0, .string ⟨#[]⟩, .int .u64 0, .int .i64 0, .string ⟨#[]⟩] (cap * 11)) 41)) w.heap.size w.heap.size cap [] :=
  World.ownsRow_made w _ cap (Nat.le_refl _) (by unfold maxLen; omega) (by simp [size_madeCells])
theorem OwnRecs.alloc {w : World} {B g cap : Nat} {L : List Rec} (h : OwnRecs w B g cap L) (o : Obj) : OwnRecs (w.alloc o) B g cap L := World.ownsRow.alloc h o

section
variable {w : World} {ops : Array Oper} {rest : List Oper} {o : Oper} {a : Act} {Q : Exit → Act → World → Prop}
/-- 'append(sub, r)' with room -/
theorem wpList_pushRec (hgd : o.guard = none) (s x : Operand) (ho : o.op = .call { callee := .builtin .append, args := #[s, x], argTypes := #[30, 30] })
    (B g cap : Nat) (L : List Rec) (hs : a.eval s = .slice (some ⟨g, 0, none⟩) L.length cap) (hown : OwnRecs w B g cap L) (p : Nat) (q : Rec) (hx : a.eval x = .slice (some ⟨p, 0, none⟩) 1 1) (hq : w.rangeAt p 0 q.cells)
    (hL : L.length < cap)
    (h : ∀ w', OwnRecs w' B g cap (L ++ [q]) → w.grownBy w' (some g) → wpList Try.prog ops Q rest (a.put o.dst (.slice (some ⟨g, 0, none⟩) (L.length + 1) cap)) w') : wpList Try.prog ops Q (o :: rest) a w := by
  obtain ⟨i0, hi, hz0, hz1, hz2⟩ := info_parts info41
  refine wpList_append_own_spare _ hgd s x 30 ho B 41 i0 11 Try.underlying30 hi hz1 g L.length cap (flatR L) hs hown ⟨p, 0, none⟩ 1 1 q.cells hx rfl ?_ q.one (by omega) ?_
  · intro j u hj
    have := hq j u hj
    rw [Addr.add_mid]
    exact this
  · intro w' h1 h2
    refine h w' ?_ h2
    unfold OwnRecs
    have e : flatR (L ++ [q]) = flatR L ++ q.cells := by unfold flatR; simp
    rw [List.length_append, e]
    exact h1
/-- 'len(m)' -/
theorem wpList_lenN (hg : o.guard = none) (m : Operand) (hop : o.op = Op.call { callee := Callee.builtin Builtin.len, args := #[m], argTypes := #[32] }) (b sz : Nat) (f : ByteArray → Option St) (hm : a.eval m = .map (some b)) (h : MapN w b sz f)
    (hK : wpList Try.prog ops Q rest (a.put o.dst (.int .i64 sz)) w) : wpList Try.prog ops Q (o :: rest) a w := by
  obtain ⟨D, h1, h2, h3⟩ := h
  refine wpList_len_own _ hg m 32 hop 9 44 Try.underlying32 heldR b sz D hm h1 ?_
  rw [h3]
  exact hK
/-- 's, ok := m[k]' where it is there -/
theorem wpList_haveN (hg : o.guard = none) (m x : Operand) (hop : o.op = Op.lookup 32 m x true) (b sz : Nat) (f : ByteArray → Option St) (hm : a.eval m = .map (some b)) (h : MapN w b sz f) (s : ByteArray) (hx : a.eval x = .string s) (hs : s.size ≤ maxLen) (t : St) (ht : f s = some t)
    (hK : wpList Try.prog ops Q rest (a.put o.dst (.tuple #[t.val, .bool true])) w) : wpList Try.prog ops Q (o :: rest) a w := by
  have hkey : keyOf Try.prog 9 (.string s) = some (.string s.data.toList) := WideMaps.keyOf_string_mk Try.underlying9 hs
  refine wpList_look_ok hg m x 32 hop 9 44 law9 Try.underlying32 St.zero.val (zero44 _) b sz (holdF f) hm h.is (.string s) _ hx hkey ?_
  rw [hold_string, ht]
  exact hK
end
end Go.Proofs.Qxb6605248a
