/- FnSeenExact: what the copies lay. -/
import Derived.Test.Qxb6605487aChain
set_option linter.unusedVariables false
namespace Go.Proofs.Qxb6605487a
open Go.RowKit

/-- the copy's cells, k versions laid -/
def verCell (A : Nat → Option Addr) (L : Nat → Nat) (D : Nat → Bool) (C : Nat → Int) (k i : Nat) : Value :=
  if i / 3 < k then (if i % 3 = 0 then .slice (A (i / 3)) (L (i / 3)) (L (i / 3)) else if i % 3 = 1 then .bool (D (i / 3)) else .int .u64 (C (i / 3)))
  else (if i % 3 = 0 then .slice none 0 0 else if i % 3 = 1 then .bool false else .int .u64 0)

theorem verCell_step (A : Nat → Option Addr) (L : Nat → Nat) (D : Nat → Bool) (C : Nat → Int) (w : World) (g m k : Nat) (h : w.rowIs g 35 m (verCell A L D C k)) :
    (((w.setCell ⟨g, k * 3, none⟩ (.slice (A k) (L k) (L k))).setCell ⟨g, k * 3 + 1, none⟩ (.bool (D k))).setCell ⟨g, k * 3 + 2, none⟩ (.int .u64 (C k))).rowIs g 35 m (verCell A L D C (k + 1)) := by
  refine (((h.set (k * 3) _).set (k * 3 + 1) _).set (k * 3 + 2) _).congr ?_
  intro i _
  by_cases h4 : i / 3 = k
  · have hk : i / 3 < k + 1 := by omega
    have hr : i = k * 3 ∨ i = k * 3 + 1 ∨ i = k * 3 + 2 := by omega
    unfold verCell
    rw [if_pos hk, h4]
    rcases hr with rfl | rfl | rfl
    · rw [if_neg (by omega), if_neg (by omega), if_pos rfl, if_pos (by omega)]
    · rw [if_neg (by omega), if_pos rfl, if_neg (by omega), if_pos (by omega)]
    · rw [if_pos rfl, if_neg (by omega), if_neg (by omega)]
  · rw [if_neg (by omega), if_neg (by omega), if_neg (by omega)]
    unfold verCell
    by_cases h5 : i / 3 < k
    · rw [if_pos h5, if_pos (show i / 3 < k + 1 by omega)]
    · rw [if_neg h5, if_neg (show ¬ i / 3 < k + 1 by omega)]
theorem verCell_congr (A A' : Nat → Option Addr) (L : Nat → Nat) (D : Nat → Bool) (C : Nat → Int) (k i : Nat) (h : ∀ j, j < k → A j = A' j) : verCell A L D C k i = verCell A' L D C k i := by
  unfold verCell
  by_cases h1 : i / 3 < k
  · rw [if_pos h1, if_pos h1, h _ h1]
  · rw [if_neg h1, if_neg h1]

/-- the copy -/
def Copied3 (w : World) (g n : Nat) (A : Nat → Option Addr) (L : Nat → Nat) (D : Nat → Bool) (C : Nat → Int) : Prop :=
  ∀ k, k < n → w.cell? ⟨g, k * 3, none⟩ = some (.slice (A k) (L k) (L k)) ∧ w.cell? ⟨g, k * 3 + 1, none⟩ = some (.bool (D k)) ∧ w.cell? ⟨g, k * 3 + 2, none⟩ = some (.int .u64 (C k))
theorem Copied3.later {w w' : World} {g n : Nat} {A : Nat → Option Addr} {L : Nat → Nat} {D : Nat → Bool} {C : Nat → Int} (h : Copied3 w g n A L D C) (hb : Below w.heap.size w w') : Copied3 w' g n A L D C :=
  fun k hk => ⟨cell_later hb (h k hk).1, cell_later hb (h k hk).2.1, cell_later hb (h k hk).2.2⟩
theorem copied3_row {A : Nat → Option Addr} {L : Nat → Nat} {D : Nat → Bool} {C : Nat → Int} {w : World} {g n : Nat} (h : w.rowIs g 35 (n * 3) (verCell A L D C n)) : Copied3 w g n A L D C := by
  intro k hk
  have h0 := h.cell (i := k * 3) (by omega)
  have h1 := h.cell (i := k * 3 + 1) (by omega)
  have h2 := h.cell (i := k * 3 + 2) (by omega)
  have e0 : verCell A L D C n (k * 3) = .slice (A k) (L k) (L k) := by
    unfold verCell
    rw [if_pos (by omega), if_pos (by omega), show k * 3 / 3 = k by omega]
  have e1 : verCell A L D C n (k * 3 + 1) = .bool (D k) := by
    unfold verCell
    rw [if_pos (by omega), if_neg (by omega), if_pos (by omega), show (k * 3 + 1) / 3 = k by omega]
  have e2 : verCell A L D C n (k * 3 + 2) = .int .u64 (C k) := by
    unfold verCell
    rw [if_pos (by omega), if_neg (by omega), if_neg (by omega), show (k * 3 + 2) / 3 = k by omega]
  rw [e0] at h0
  rw [e1] at h1
  rw [e2] at h2
  exact ⟨h0, h1, h2⟩

theorem info35 : (Try.prog.info? 35).map (fun i => (i.zero, i.size, i.bytes)) = some (some (.agg #[.slice none 0 0, .bool false, .int .u64 0]), 3, 40) := by kernel_rfl
theorem info22 : (Try.prog.info? 22).map (fun i => (i.zero, i.size, i.bytes)) = some (some (.slice none 0 0), 1, 24) := by kernel_rfl
theorem info4 : (Try.prog.info? 4).map (fun i => (i.zero, i.size, i.bytes)) = some (some (.bool false), 1, 1) := by kernel_rfl
theorem info33 : (Try.prog.info? 33).map (fun i => (i.zero, i.size, i.bytes)) = some (some (.int .u64 0), 1, 8) := by kernel_rfl
theorem heap_set (w : World) (g o : Nat) (v : Value) (j : Nat) (h : j ≠ g) : (w.setCell ⟨g, o, none⟩ v).heap[j]? = w.heap[j]? := Below.heap_setCell w ⟨g, o, none⟩ v j h
def vcell (A : Nat → Option Addr) (L : Nat → Nat) (m i : Nat) : Value := if i < m then .slice (A i) (L i) (L i) else .slice none 0 0
def dcell (D : Nat → Bool) (m i : Nat) : Value := if i < m then .bool (D i) else .bool false
def ccell (C : Nat → Int) (m i : Nat) : Value := if i < m then .int .u64 (C i) else .int .u64 0
/-- the three slices, m laid -/
def Rows3 (w : World) (G k : Nat) (A : Nat → Option Addr) (L : Nat → Nat) (D : Nat → Bool) (C : Nat → Int) (m : Nat) : Prop :=
  w.rowIs G 22 k (vcell A L m) ∧ w.rowIs (G + 1) 4 k (dcell D m) ∧ w.rowIs (G + 2) 33 k (ccell C m)
theorem rows3_new (w : World) (k : Nat) (A : Nat → Option Addr) (L : Nat → Nat) (D : Nat → Bool) (C : Nat → Int) :
    Rows3 (((w.alloc (.cells (madeCells #[.slice none 0 0] k) 22)).alloc (.cells (madeCells #[.bool false] k) 4)).alloc (.cells (madeCells #[.int .u64 0] k) 33)) w.heap.size k A L D C 0 := by
  have h1 := rowIs_made_many w #[.slice none 0 0] k 22
  have h2 := rowIs_made_many (w.alloc (.cells (madeCells #[.slice none 0 0] k) 22)) #[.bool false] k 4
  have h3 := rowIs_made_many ((w.alloc (.cells (madeCells #[.slice none 0 0] k) 22)).alloc (.cells (madeCells #[.bool false] k) 4)) #[.int .u64 0] k 33
  simp only [World.size_alloc] at h2 h3
  refine ⟨?_, ?_, ?_⟩
  · have e1 : ((w.alloc (.cells (madeCells #[.slice none 0 0] k) 22)).alloc (.cells (madeCells #[.bool false] k) 4)).rowIs w.heap.size 22 k _ := h1.of_block (Below.heap_alloc _ _ _ (by simp))
    have e2 : (((w.alloc (.cells (madeCells #[.slice none 0 0] k) 22)).alloc (.cells (madeCells #[.bool false] k) 4)).alloc (.cells (madeCells #[.int .u64 0] k) 33)).rowIs w.heap.size 22 k _ := e1.of_block (Below.heap_alloc _ _ _ (by simp; omega))
    refine e2.congr (fun i _ => ?_)
    simp [vcell, Nat.mod_one]
  · have e1 : (((w.alloc (.cells (madeCells #[.slice none 0 0] k) 22)).alloc (.cells (madeCells #[.bool false] k) 4)).alloc (.cells (madeCells #[.int .u64 0] k) 33)).rowIs (w.heap.size + 1) 4 k _ := h2.of_block (Below.heap_alloc _ _ _ (by simp))
    refine e1.congr (fun i _ => ?_)
    simp [dcell, Nat.mod_one]
  · refine h3.congr (fun i _ => ?_)
    simp [ccell, Nat.mod_one]
theorem Rows3.step {w : World} {G k : Nat} {A : Nat → Option Addr} {L : Nat → Nat} {D : Nat → Bool} {C : Nat → Int} {m : Nat} (h : Rows3 w G k A L D C m) :
    Rows3 (((w.setCell ⟨G, m, none⟩ (.slice (A m) (L m) (L m))).setCell ⟨G + 1, m, none⟩ (.bool (D m))).setCell ⟨G + 2, m, none⟩ (.int .u64 (C m))) G k A L D C (m + 1) := by
  obtain ⟨h1, h2, h3⟩ := h
  have step : ∀ (f : Nat → Value) (v0 : Value) (i : Nat), (if i = m then f m else (if i < m then f i else v0)) = if i < m + 1 then f i else v0 := by
    intro f v0 i
    by_cases h1 : i = m
    · subst h1; simp
    · by_cases h2 : i < m
      · rw [if_neg h1, if_pos h2, if_pos (by omega)]
      · rw [if_neg h1, if_neg h2, if_neg (by omega)]
  refine ⟨?_, ?_, ?_⟩
  · refine (((h1.set m (.slice (A m) (L m) (L m))).of_block (heap_set _ _ _ _ _ (by omega))).of_block (heap_set _ _ _ _ _ (by omega))).congr (fun i _ => ?_)
    exact step (fun i => .slice (A i) (L i) (L i)) (.slice none 0 0) i
  · refine (((h2.of_block (heap_set _ _ _ _ _ (by omega))).set m (.bool (D m))).of_block (heap_set _ _ _ _ _ (by omega))).congr (fun i _ => ?_)
    exact step (fun i => .bool (D i)) (.bool false) i
  · refine (((h3.of_block (heap_set _ _ _ _ _ (by omega))).of_block (heap_set _ _ _ _ _ (by omega))).set m (.int .u64 (C m))).congr (fun i _ => ?_)
    exact step (fun i => .int .u64 (C i)) (.int .u64 0) i
theorem Rows3.three {w : World} {G k : Nat} {A : Nat → Option Addr} {L : Nat → Nat} {D : Nat → Bool} {C : Nat → Int} (h : Rows3 w G k A L D C k) : Three w G (G + 1) (G + 2) k A L D C := by
  obtain ⟨h1, h2, h3⟩ := h
  intro i hi
  have e1 := h1.cell (i := i) hi
  have e2 := h2.cell (i := i) hi
  have e3 := h3.cell (i := i) hi
  unfold vcell at e1
  unfold dcell at e2
  unfold ccell at e3
  rw [if_pos hi] at e1 e2 e3
  exact ⟨e1, e2, e3⟩
/-- the loop's 'best' -/
def bestI : Option Nat → Int
  | none => -1
  | some i => i
theorem best_step (vis : Nat → Bool) (k j : Nat) (hj : j < k) : firstV vis k (k - j) = if vis j = true then some j else firstV vis k (k - (j + 1)) := by
  have e : k - j = (k - (j + 1)) + 1 := by omega
  rw [e]
  simp only [firstV]
  have e2 : k - (k - (j + 1) + 1) = j := by omega
  rw [e2]
end Go.Proofs.Qxb6605487a
