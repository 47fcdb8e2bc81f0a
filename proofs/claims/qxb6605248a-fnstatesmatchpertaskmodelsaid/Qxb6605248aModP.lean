/- The plain law: a task's state is as the per-task model says. -/
import Derived.Test.Qxb6605248aStP
import Derived.Test.Qxb6605248aLeafD
set_option linter.unusedVariables false
namespace Go.Proofs.Qxb6605248a

/-- the latest record of the task that is no tick, among the first k; or -1 -/
def lastM (rc : Nat → Rec) (id : ByteArray) : Nat → Int
  | 0 => -1
  | k + 1 => if (rc k).task = id ∧ ¬ (rc k).ev = tickS then (k : Int) else lastM rc id k
theorem lastM_cases (rc : Nat → Rec) (id : ByteArray) (k : Nat) : lastM rc id k = -1 ∨ ∃ p : Nat, p < k ∧ lastM rc id k = p := by
  induction k with
  | zero => exact .inl rfl
  | succ k ih =>
    unfold lastM
    split
    · exact .inr ⟨k, by omega, rfl⟩
    · rcases ih with h | ⟨p, hp, h⟩
      · exact .inl h
      · exact .inr ⟨p, by omega, h⟩
theorem lastM_lt (rc : Nat → Rec) (id : ByteArray) (k : Nat) : lastM rc id k < k := by
  rcases lastM_cases rc id k with h | ⟨p, hp, h⟩ <;> omega
def recAt (rc : Nat → Rec) (l : Int) : Rec := if l < 0 then Rec.zero else rc l.toNat
/-- does record k open an attempt? -/
def opensM (rc : Nat → Rec) (id : ByteArray) (d : Int) (k : Nat) : Bool :=
  decide (d ≤ k) && (decide (lastM rc id k < 0) || !decide ((recAt rc (lastM rc id k)).ev = startS) || (decide (lastM rc id k < d) && decide ((rc k).ev = startS)))
def attM (rc : Nat → Rec) (id : ByteArray) (d : Int) : Nat → Int
  | 0 => 0
  | k + 1 => if (rc k).task = id ∧ ¬ (rc k).ev = tickS then (if opensM rc id d k = true then attM rc id d k + 1 else attM rc id d k) else attM rc id d k
theorem attM_le (rc : Nat → Rec) (id : ByteArray) (d : Int) (k : Nat) : 0 ≤ attM rc id d k ∧ attM rc id d k ≤ k := by
  induction k with
  | zero => simp [attM]
  | succ k ih =>
    unfold attM
    split
    · split <;> omega
    · omega
theorem attM_zero (rc : Nat → Rec) (id : ByteArray) (d : Int) (k : Nat) (h : (k : Int) ≤ d) : attM rc id d k = 0 := by
  induction k with
  | zero => rfl
  | succ k ih =>
    have e := ih (by omega)
    unfold attM
    rw [e]
    split
    · rw [if_neg]
      unfold opensM
      rw [decide_eq_false (by omega : ¬ d ≤ (k : Int))]
      simp
    · rfl
/-- the state as the model has it -/
structure Model (rc : Nat → Rec) (id : ByteArray) (d : Int) (m : Nat) (s : St) : Prop where
  last : s.last = recAt rc (lastM rc id m)
  tick : s.ticked = true ↔ ∃ i : Nat, i < m ∧ lastM rc id m < i ∧ (rc i).task = id ∧ (rc i).ev = tickS
  att : s.att = attM rc id d m
  uw : s.uw = (decide ((recAt rc (lastM rc id m)).ev = startS) && decide (d ≤ lastM rc id m))
  car : s.car = (decide ((recAt rc (lastM rc id m)).ev = startS) && decide (lastM rc id m < d))
/-- the state, or the zero one -/
def gF (rc : Nat → Rec) (id : ByteArray) (k : Nat) : St := (stF rc k id).getD St.zero
def gPre (s : St) (r : Rec) : St := if r.isStart = true then s.reset else s
theorem reset_zero : St.zero.reset = St.zero := by
  have : decide (Rec.zero.ev = startS) = false := by decide
  unfold St.reset St.zero
  simp only [this]
theorem pre_getD (f : ByteArray → Option St) (r : Rec) (x : ByteArray) : (preF f r x).getD St.zero = gPre ((f x).getD St.zero) r := by
  unfold preF gPre
  split
  · show ((f x).map St.reset).getD St.zero = _
    cases f x with
    | none => exact reset_zero.symm
    | some s => rfl
  · rfl
theorem gF_succ (rc : Nat → Rec) (id : ByteArray) (k : Nat) (hid : ¬ id = emptyS) : gF rc id (k + 1) = if (rc k).task = id then (gPre (gF rc id k) (rc k)).step (rc k) else gPre (gF rc id k) (rc k) := by
  have e : gF rc id (k + 1) = (stepF (stF rc k) (rc k) id).getD St.zero := rfl
  rw [e]
  unfold stepF
  by_cases h1 : (rc k).task = id
  · rw [if_neg (by rw [h1]; exact hid), if_pos h1]
    unfold setF
    rw [if_pos h1.symm, h1]
    show (some _).getD _ = _
    rw [Option.getD_some, pre_getD]
    rfl
  · rw [if_neg h1]
    split
    · exact pre_getD _ _ _
    · unfold setF
      rw [if_neg (fun h => h1 h.symm)]
      exact pre_getD _ _ _
theorem gPre_last (s : St) (r : Rec) : (gPre s r).last = s.last ∧ (gPre s r).ticked = s.ticked := by
  unfold gPre
  split <;> exact ⟨rfl, rfl⟩
theorem step_tick (s : St) (r : Rec) (h : r.ev = tickS) : s.step r = { s with ticked := true } := by
  unfold St.step
  rw [if_pos h]
theorem step_not (s : St) (r : Rec) (h : ¬ r.ev = tickS) : s.step r = { last := r, ticked := false, att := if (!s.uw && (decide (r.ev = startS) || !s.car)) = true then s.att + 1 else s.att, uw := decide (r.ev = startS), car := false } := by
  unfold St.step
  rw [if_neg h]
theorem lastM_own (rc : Nat → Rec) (id : ByteArray) (k : Nat) (h1 : (rc k).task = id) (h2 : ¬ (rc k).ev = tickS) : lastM rc id (k + 1) = k := if_pos ⟨h1, h2⟩
theorem lastM_skip (rc : Nat → Rec) (id : ByteArray) (k : Nat) (h : ¬ ((rc k).task = id ∧ ¬ (rc k).ev = tickS)) : lastM rc id (k + 1) = lastM rc id k := if_neg h
theorem recAt_nat (rc : Nat → Rec) (k : Nat) : recAt rc (k : Int) = rc k := by
  unfold recAt
  rw [if_neg (by omega)]
  rfl
/-- last and ticked -/
theorem inv1 (rc : Nat → Rec) (id : ByteArray) (hid : ¬ id = emptyS) (k : Nat) : (gF rc id k).last = recAt rc (lastM rc id k) ∧ ((gF rc id k).ticked = true ↔ ∃ i : Nat, i < k ∧ lastM rc id k < i ∧ (rc i).task = id ∧ (rc i).ev = tickS) := by
  induction k with
  | zero => exact ⟨rfl, ⟨(fun h => by cases h), (fun ⟨i, hi, _⟩ => by omega)⟩⟩
  | succ k ih =>
    obtain ⟨ih1, ih2⟩ := ih
    obtain ⟨p1, p2⟩ := gPre_last (gF rc id k) (rc k)
    rw [gF_succ rc id k hid]
    by_cases h1 : (rc k).task = id
    · rw [if_pos h1]
      by_cases h2 : (rc k).ev = tickS
      · rw [step_tick _ _ h2, lastM_skip rc id k (fun h => h.2 h2)]
        refine ⟨p1.trans ih1, ⟨fun _ => ⟨k, by omega, lastM_lt rc id k, h1, h2⟩, fun _ => rfl⟩⟩
      · rw [step_not _ _ h2, lastM_own rc id k h1 h2]
        refine ⟨(recAt_nat rc k).symm, ⟨(fun h => by simp at h), (fun ⟨i, hi, hl, _⟩ => by omega)⟩⟩
    · rw [if_neg h1, lastM_skip rc id k (fun h => h1 h.1)]
      refine ⟨p1.trans ih1, ?_⟩
      rw [p2, ih2]
      constructor
      · rintro ⟨i, hi, h⟩
        exact ⟨i, by omega, h⟩
      · rintro ⟨i, hi, hl, ht, he⟩
        by_cases hik : i = k
        · subst hik
          exact absurd ht h1
        · exact ⟨i, by omega, hl, ht, he⟩
/-- attempts, under way, carried, with k records behind -/
def Eqs (rc : Nat → Rec) (id : ByteArray) (d : Int) (k : Nat) (s : St) : Prop :=
  s.att = attM rc id d k ∧ s.uw = (decide ((recAt rc (lastM rc id k)).ev = startS) && decide (d ≤ lastM rc id k)) ∧ s.car = (decide ((recAt rc (lastM rc id k)).ev = startS) && decide (lastM rc id k < d))
theorem eqs_step (rc : Nat → Rec) (id : ByteArray) (d : Int) (k : Nat) (s : St) (h : Eqs rc id d k s) (hd : d ≤ k) : Eqs rc id d (k + 1) (if (rc k).task = id then s.step (rc k) else s) := by
  obtain ⟨e1, e2, e3⟩ := h
  by_cases h1 : (rc k).task = id
  · rw [if_pos h1]
    by_cases h2 : (rc k).ev = tickS
    · rw [step_tick _ _ h2]
      unfold Eqs
      rw [lastM_skip rc id k (fun h => h.2 h2), show attM rc id d (k + 1) = attM rc id d k from if_neg (fun h => h.2 h2)]
      exact ⟨e1, e2, e3⟩
    · rw [step_not _ _ h2]
      unfold Eqs
      rw [lastM_own rc id k h1 h2, recAt_nat, show attM rc id d (k + 1) = if opensM rc id d k = true then attM rc id d k + 1 else attM rc id d k from if_pos ⟨h1, h2⟩]
      refine ⟨?_, ?_, ?_⟩
      · show (if _ then s.att + 1 else s.att) = _
        have hb : (!s.uw && (decide ((rc k).ev = startS) || !s.car)) = opensM rc id d k := by
          rw [e2, e3]
          unfold opensM
          rw [decide_eq_true hd]
          generalize hl : lastM rc id k = l
          by_cases hneg : l < 0
          · have hz : recAt rc l = Rec.zero := if_pos hneg
            have hz2 : decide (Rec.zero.ev = startS) = false := by decide
            rw [hz, hz2, decide_eq_true hneg]
            simp
          · rw [decide_eq_false hneg]
            by_cases hld : l < d
            · rw [decide_eq_true hld, decide_eq_false (by omega : ¬ d ≤ l)]
              cases decide ((recAt rc l).ev = startS) <;> cases decide ((rc k).ev = startS) <;> rfl
            · rw [decide_eq_false hld, decide_eq_true (by omega : d ≤ l)]
              cases decide ((recAt rc l).ev = startS) <;> cases decide ((rc k).ev = startS) <;> rfl
        rw [hb, e1]
      · show decide _ = _
        rw [decide_eq_true hd]
        simp
      · show false = _
        rw [decide_eq_false (by omega : ¬ (k : Int) < d)]
        simp
  · rw [if_neg h1]
    unfold Eqs
    rw [lastM_skip rc id k (fun h => h1 h.1), show attM rc id d (k + 1) = attM rc id d k from if_neg (fun h => h1 h.1)]
    exact ⟨e1, e2, e3⟩
theorem inv2 (rc : Nat → Rec) (id : ByteArray) (hid : ¬ id = emptyS) (d : Int) (m : Nat) (h1 : ∀ j, j < m → (rc j).isStart = true → (j : Int) ≤ d) (h2 : 0 ≤ d → (rc d.toNat).isStart = true) (k : Nat) (hk : k ≤ m) (hd : d < k) : Eqs rc id d k (gF rc id k) := by
  induction k with
  | zero =>
    refine ⟨rfl, ?_, ?_⟩
    · show false = (decide (Rec.zero.ev = startS) && _)
      rw [show decide (Rec.zero.ev = startS) = false by decide]
      rfl
    · show false = (decide (Rec.zero.ev = startS) && _)
      rw [show decide (Rec.zero.ev = startS) = false by decide]
      rfl
  | succ k ih =>
    rw [gF_succ rc id k hid]
    refine eqs_step rc id d k _ ?_ (by omega)
    by_cases hdk : d < k
    · have hns : ¬ (rc k).isStart = true := fun h => by have := h1 k (by omega) h; omega
      unfold gPre
      rw [if_neg hns]
      exact ih (by omega) hdk
    · have e : d = k := by omega
      have hs : (rc k).isStart = true := by
        have := h2 (by omega)
        rwa [e] at this
      have hl := lastM_lt rc id k
      unfold gPre
      rw [if_pos hs]
      refine ⟨?_, ?_, ?_⟩
      · show (0 : Int) = _
        rw [attM_zero rc id d k (by omega)]
      · show false = _
        rw [decide_eq_false (by omega : ¬ d ≤ lastM rc id k)]
        simp
      · show decide ((gF rc id k).last.ev = startS) = _
        rw [(inv1 rc id hid k).1, decide_eq_true (by omega : lastM rc id k < d)]
        simp
theorem lastD_ge (rc : Nat → Rec) (m : Nat) : ∀ j, j < m → (rc j).isStart = true → (j : Int) ≤ lastD rc m := by
  induction m with
  | zero => intro j hj; omega
  | succ m ih =>
    intro j hj hs
    unfold lastD
    split
    · omega
    · rename_i h
      by_cases e : j = m
      · subst e
        exact absurd hs h
      · exact ih j (by omega) hs
theorem lastD_is (rc : Nat → Rec) (m : Nat) : 0 ≤ lastD rc m → (rc (lastD rc m).toNat).isStart = true := by
  induction m with
  | zero => intro h; simp [lastD] at h
  | succ m ih =>
    intro h
    by_cases hs : (rc m).isStart = true
    · have e : lastD rc (m + 1) = m := if_pos hs
      rw [e]
      exact hs
    · have e : lastD rc (m + 1) = lastD rc m := if_neg hs
      rw [e] at h ⊢
      exact ih h
/-- THE PLAIN LAW -/
theorem as_model (rc : Nat → Rec) (id : ByteArray) (hid : ¬ id = emptyS) (m : Nat) : Model rc id (lastD rc m) m (gF rc id m) := by
  obtain ⟨i1, i2⟩ := inv1 rc id hid m
  obtain ⟨e1, e2, e3⟩ := inv2 rc id hid (lastD rc m) m (lastD_ge rc m) (lastD_is rc m) m (Nat.le_refl _) (lastD_le rc m).2
  exact ⟨i1, i2, e1, e2, e3⟩
end Go.Proofs.Qxb6605248a
