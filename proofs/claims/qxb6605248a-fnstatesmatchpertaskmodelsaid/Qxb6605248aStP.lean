/- The plain law: a task's state hangs on its own records and the dispatch starts. -/
import Derived.Test.Qxb6605248aStB
set_option linter.unusedVariables false
namespace Go.Proofs.Qxb6605248a

theorem preF_at (f g : ByteArray → Option St) (r : Rec) (x : ByteArray) (h : f x = g x) : preF f r x = preF g r x := by
  unfold preF resetF
  split
  · show Option.map St.reset (f x) = Option.map St.reset (g x)
    rw [h]
  · exact h
theorem stepF_at (f g : ByteArray → Option St) (r : Rec) (x : ByteArray) (h : f x = g x) : stepF f r x = stepF g r x := by
  unfold stepF
  split
  · exact preF_at f g r x h
  · unfold setF
    split
    · rename_i e
      subst e
      rw [preF_at f g r r.task h]
    · exact preF_at f g r x h
theorem stepF_off (f : ByteArray → Option St) (r : Rec) (x : ByteArray) (h1 : ¬ r.task = x) (h2 : r.isStart = false) : stepF f r x = f x := by
  have e : preF f r = f := by unfold preF; rw [h2]; rfl
  unfold stepF
  rw [e]
  split
  · rfl
  · unfold setF
    rw [if_neg (fun h => h1 h.symm)]
/-- a list as records -/
def ofL (L : List Rec) (j : Nat) : Rec := L.getD j Rec.zero
theorem stF_congr (rc rc' : Nat → Rec) (n : Nat) (h : ∀ j, j < n → rc' j = rc j) : stF rc' n = stF rc n := by
  induction n with
  | zero => rfl
  | succ n ih =>
    unfold stF
    rw [h n (by omega), ih (fun j hj => h j (by omega))]
theorem stF_snoc (L : List Rec) (r : Rec) : stF (ofL (L ++ [r])) (L ++ [r]).length = stepF (stF (ofL L) L.length) r := by
  have e : (L ++ [r]).length = L.length + 1 := by simp
  rw [e]
  have e2 : stF (ofL (L ++ [r])) (L.length + 1) = stepF (stF (ofL (L ++ [r])) L.length) (ofL (L ++ [r]) L.length) := rfl
  rw [e2, stF_congr (ofL L) (ofL (L ++ [r])) L.length (fun j hj => by unfold ofL; simp [List.getD_eq_getElem?_getD, List.getElem?_append_left hj])]
  congr 1
  unfold ofL
  simp [List.getD_eq_getElem?_getD]
/-- is the record a task's own, or a dispatch start? -/
def Rec.keeps (r : Rec) (id : ByteArray) : Bool := decide (r.task = id) || r.isStart
def subL (rc : Nat → Rec) (id : ByteArray) : Nat → List Rec
  | 0 => []
  | k + 1 => if (rc k).keeps id = true then subL rc id k ++ [rc k] else subL rc id k
theorem subL_len (rc : Nat → Rec) (id : ByteArray) (k : Nat) : (subL rc id k).length ≤ k := by
  induction k with
  | zero => simp [subL]
  | succ k ih =>
    unfold subL
    split
    · simp; omega
    · omega
theorem subL_mem (rc : Nat → Rec) (id : ByteArray) (k : Nat) : ∀ r ∈ subL rc id k, ∃ j, j < k ∧ r = rc j := by
  induction k with
  | zero => simp [subL]
  | succ k ih =>
    unfold subL
    intro r hr
    split at hr
    · rcases List.mem_append.1 hr with h | h
      · obtain ⟨j, hj, e⟩ := ih r h
        exact ⟨j, by omega, e⟩
      · exact ⟨k, by omega, by simpa using h⟩
    · obtain ⟨j, hj, e⟩ := ih r hr
      exact ⟨j, by omega, e⟩
/-- THE PLAIN LAW -/
theorem own_records (rc : Nat → Rec) (id : ByteArray) (k : Nat) : stF (ofL (subL rc id k)) (subL rc id k).length id = stF rc k id := by
  induction k with
  | zero => rfl
  | succ k ih =>
    have e : stF rc (k + 1) id = stepF (stF rc k) (rc k) id := rfl
    rw [e]
    unfold subL
    split
    · rw [stF_snoc]
      exact stepF_at _ _ _ _ ih
    · rename_i h
      unfold Rec.keeps at h
      simp only [Bool.or_eq_true, decide_eq_true_eq, not_or, Bool.not_eq_true] at h
      rw [stepF_off _ _ _ h.1 h.2]
      exact ih
theorem stF_isSome (rc : Nat → Rec) (k : Nat) (x : ByteArray) : (stF rc k x).isSome = true ↔ ¬ x = emptyS ∧ ∃ j, j < k ∧ (rc j).task = x := by
  induction k with
  | zero => simp [stF]
  | succ k ih =>
    have e : stF rc (k + 1) x = stepF (stF rc k) (rc k) x := rfl
    rw [e]
    have hex : (∃ j, j < k + 1 ∧ (rc j).task = x) ↔ (∃ j, j < k ∧ (rc j).task = x) ∨ (rc k).task = x := by
      constructor
      · rintro ⟨j, hj, h⟩
        by_cases h1 : j < k
        · exact .inl ⟨j, h1, h⟩
        · obtain rfl : j = k := by omega
          exact .inr h
      · rintro (⟨j, hj, h⟩ | h)
        · exact ⟨j, by omega, h⟩
        · exact ⟨k, by omega, h⟩
    rw [hex]
    unfold stepF
    split
    · rename_i h1
      rw [preF_isSome, ih, h1]
      constructor
      · rintro ⟨h2, h3⟩; exact ⟨h2, .inl h3⟩
      · rintro ⟨h2, h3 | h3⟩
        · exact ⟨h2, h3⟩
        · exact absurd h3.symm h2
    · rename_i h1
      unfold setF
      split
      · rename_i h2
        subst h2
        simp [h1]
      · rename_i h2
        rw [preF_isSome, ih]
        constructor
        · rintro ⟨h3, h4⟩; exact ⟨h3, .inl h4⟩
        · rintro ⟨h3, h4 | h4⟩
          · exact ⟨h3, h4⟩
          · exact absurd h4.symm h2
theorem sz_old (rc : Nat → Rec) (k : Nat) (h : (rc k).task = emptyS ∨ ∃ j, j < k ∧ (rc j).task = (rc k).task) : szF rc (k + 1) = szF rc k := by
  by_cases he : (rc k).task = emptyS
  · show (if _ then _ else _) = _
    rw [if_pos (.inl he)]
  · rcases h with h | h
    · exact absurd h he
    · show (if _ then _ else _) = _
      rw [if_pos (.inr ((stF_isSome rc k _).2 ⟨he, h⟩))]
theorem sz_new (rc : Nat → Rec) (k : Nat) (he : ¬ (rc k).task = emptyS) (h : ∀ j, j < k → ¬ (rc j).task = (rc k).task) : szF rc (k + 1) = szF rc k + 1 := by
  show (if _ then _ else _) = _
  rw [if_neg]
  rintro (h1 | h1)
  · exact he h1
  · obtain ⟨_, j, hj, e⟩ := (stF_isSome rc k _).1 h1
    exact h j hj e
end Go.Proofs.Qxb6605248a
