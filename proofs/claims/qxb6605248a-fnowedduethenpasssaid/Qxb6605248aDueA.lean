/- FnOwedDueThenPass: copies of records; the plain law. -/
import Derived.Test.Qxb6605248aOwedB
set_option linter.unusedVariables false
namespace Go.Proofs.Qxb6605248a
open Go.RowKit Go.Maps

/-- 'copy' at elements of sz cells -/
theorem run_copy_cellsN {P : Program} (w : World) (dT sT ty elem : TypeId) (sz b o dLen dCap : Nat) (a : Addr) (sLen sCap : Nat) (cs : List Value)
    (hu : P.underlying dT = some (.slice elem)) (hs : (P.info? elem).map (·.size) = some sz) (hn : cs.length = Nat.min sLen dLen * sz)
    (hsrc : ∀ j v, cs[j]? = some v → w.cell? (a.add j) = some v) (hc : w.there b o cs.length) (h1 : ∀ v ∈ cs, v.oneCell' = true) :
    (Builtin.copy_ #[dT, sT] ty #[.slice (some ⟨b, o, none⟩) dLen dCap, .slice (some a) sLen sCap]).run P w = .ok (goInt (Nat.min sLen dLen)) (w.setCells b o cs) := by
  have hl := run_loadCells_list (P := P) w a cs hsrc
  have hst := run_storeCells_cells (P := P) b o cs 0 w (fun j hj => by simpa using (hc j hj).1) (fun j hj => by simpa using (hc j hj).2) h1
  cases hq : P.info? elem with
  | none => simp [hq] at hs
  | some i =>
    have hi : i.size = sz := by simpa [hq] using hs
    simp [Builtin.copy_, run_underlying hu, Builtin.lenOf, Builtin.firstCells, sizeOf, typeInfo, hq, hi, ← hn, hl, hst]

/-- the records' cells, one behind the other -/
def flat (rc : Nat → Rec) (n : Nat) : List Value := (List.range (n * 11)).map (recCell rc n)
theorem flat_len (rc : Nat → Rec) (n : Nat) : (flat rc n).length = n * 11 := by simp [flat]
theorem flat_get (rc : Nat → Rec) (n j : Nat) (h : j < n * 11) : (flat rc n)[j]? = some (recCell rc n j) := by simp [flat, h]
theorem getD_mem {l : List Value} {i : Nat} (h : i < l.length) (d : Value) : l.getD i d ∈ l := by
  rw [List.getD_eq_getElem?_getD, List.getElem?_eq_getElem h]
  exact List.getElem_mem h
theorem flat_one (rc : Nat → Rec) (n : Nat) : ∀ v ∈ flat rc n, v.oneCell' = true := by
  intro v hv
  obtain ⟨i, hi, rfl⟩ := List.mem_map.1 hv
  have hm : i % 11 < 11 := Nat.mod_lt _ (by omega)
  unfold recCell
  split
  · exact (rc (i / 11)).one _ (getD_mem (by rw [Rec.len]; exact hm) _)
  · exact Rec.zero.one _ (getD_mem (by rw [Rec.len]; exact hm) _)
theorem copy_row {w : World} {g N n : Nat} {rc : Nat → Rec} (h : w.rowIs g 41 (N * 11) (recCell rc 0)) (hn : n ≤ N) : (w.setCells g 0 (flat rc n)).rowIs g 41 (N * 11) (recCell rc n) := by
  refine (rowIs_setCells _ _ _ _ h).congr (fun i hi => ?_)
  rw [flat_len]
  by_cases h1 : i < n * 11
  · rw [if_pos (by omega), List.getD_eq_getElem?_getD, Nat.sub_zero, flat_get _ _ _ h1]
    rfl
  · rw [if_neg (by omega)]
    unfold recCell
    rw [if_neg (by omega), if_neg (by omega)]
/-- one record more: its gate and its event -/
def withRec (rc : Nat → Rec) (n : Nat) (q : Rec) (j : Nat) : Rec := if j = n then q else rc j
theorem rec_row {w : World} {g N n : Nat} {rc : Nat → Rec} (gt : Option Addr) (e : ByteArray) (h : w.rowIs g 41 (N * 11) (recCell rc n)) :
    ((w.setCell ⟨g, n * 11 + 1, none⟩ (.pointer gt)).setCell ⟨g, n * 11 + 5, none⟩ (.string e)).rowIs g 41 (N * 11) (recCell (withRec rc n { Rec.zero with gate := gt, ev := e }) (n + 1)) := by
  refine ((h.set (n * 11 + 1) _).set (n * 11 + 5) _).congr ?_
  intro i _
  by_cases h4 : i / 11 = n
  · have hr : i % 11 < 11 := Nat.mod_lt _ (by omega)
    unfold recCell
    rw [h4, if_pos (show n < n + 1 by omega), if_neg (show ¬ n < n by omega)]
    unfold withRec
    rw [if_pos rfl]
    rcases lt11 _ hr with x | x | x | x | x | x | x | x | x | x | x <;> rw [x]
    · rw [if_neg (by omega), if_neg (by omega)]; rfl
    · rw [if_neg (by omega), if_pos (by omega)]; rfl
    · rw [if_neg (by omega), if_neg (by omega)]; rfl
    · rw [if_neg (by omega), if_neg (by omega)]; rfl
    · rw [if_neg (by omega), if_neg (by omega)]; rfl
    · rw [if_pos (by omega)]; rfl
    · rw [if_neg (by omega), if_neg (by omega)]; rfl
    · rw [if_neg (by omega), if_neg (by omega)]; rfl
    · rw [if_neg (by omega), if_neg (by omega)]; rfl
    · rw [if_neg (by omega), if_neg (by omega)]; rfl
    · rw [if_neg (by omega), if_neg (by omega)]; rfl
  · rw [if_neg (by omega), if_neg (by omega)]
    unfold recCell withRec
    by_cases h5 : i / 11 < n
    · rw [if_pos h5, if_pos (by omega), if_neg h4]
    · rw [if_neg h5, if_neg (by omega)]

section
variable {w : World} {ops : Array Oper} {rest : List Oper} {o : Oper} {a : Act} {Q : Exit → Act → World → Prop}
/-- 'copy' of n records into a longer row of zero records -/
theorem wpList_copyRecs (hgd : o.guard = none) (d s : Operand) (ho : o.op = .call { callee := .builtin .copy, args := #[d, s], argTypes := #[30, 30] })
    (g N sg n : Nat) (rc : Nat → Rec) (hd : a.eval d = .slice (some ⟨g, 0, none⟩) N N) (hs : a.eval s = .slice (some ⟨sg, 0, none⟩) n n) (hN : n ≤ N)
    (hrow : w.rowIs g 41 (N * 11) (recCell rc 0)) (hsrc : w.rowIs sg 41 (n * 11) (recCell rc n))
    (h : wpList Try.prog ops Q rest (a.put o.dst (goInt n)) (w.setCells g 0 (flat rc n))) : wpList Try.prog ops Q (o :: rest) a w := by
  refine wpList_plain hgd fun K hK => ?_
  have hmin : Nat.min n N = n := Nat.min_eq_left hN
  have hrun := run_copy_cellsN (P := Try.prog) w 30 30 o.type 41 11 g 0 N N ⟨sg, 0, none⟩ n n (flat rc n) Try.underlying30 size41 (by rw [flat_len, hmin])
    (fun j v hv => by
      have hj : j < n * 11 := by
        have := (List.getElem?_eq_some_iff.1 hv).1
        rwa [flat_len] at this
      rw [flat_get _ _ _ hj] at hv
      cases hv
      rw [Addr.add_mid, Nat.zero_add]
      exact hsrc.cell hj)
    (fun j hj => by
      rw [flat_len] at hj
      refine ⟨?_, hrow.frozen _⟩
      rw [Nat.zero_add, hrow.cell (i := j) (by have := Nat.mul_le_mul_right 11 hN; omega)]
      rfl)
    (flat_one rc n)
  rw [hmin] at hrun
  unfold Oper.wp
  simp [execOp, ho, resolve, invoke, builtin, hd, hs, hrun, Result.andThen]
  exact hK _ _ h
end

/-! ### the plain law -/
theorem setB_same (f : Int → Bool) (x : Int) (b : Bool) : setB f x b x = b := by simp [setB]
theorem setB_other (f : Int → Bool) (x y : Int) (b : Bool) (h : y ≠ x) : setB f x b y = f y := by simp [setB, h]
theorem setB_twice (f : Int → Bool) (x : Int) (b c : Bool) : setB (setB f x b) x c = setB f x c := by
  funext y
  by_cases h : y = x
  · simp [setB, h]
  · simp [setB, h]
theorem sweep_off (Ph : Nat → Int) (f : Int → Bool) (g : Int) (hf : f g = false) (n : Nat) : g ∉ (sweep Ph f n).1 ∧ (sweep Ph f n).2 g = false := by
  induction n with
  | zero => exact ⟨by simp [sweep], hf⟩
  | succ n ih =>
    unfold sweep
    split
    · rename_i h
      have hne : g ≠ Ph n := by intro e; rw [← e, ih.2] at h; cases h
      refine ⟨by simp [ih.1, hne], ?_⟩
      show setB _ _ _ g = false
      rw [setB_other _ _ _ _ hne]
      exact ih.2
    · exact ih
theorem sweep_on (Ph : Nat → Int) (f : Int → Bool) (g : Int) (hf : f g = true) (n : Nat) : ((∃ j, j < n ∧ Ph j = g) → g ∈ (sweep Ph f n).1) ∧ ((∀ j, j < n → Ph j ≠ g) → (sweep Ph f n).2 g = true) := by
  induction n with
  | zero => exact ⟨fun ⟨j, hj, _⟩ => by omega, fun _ => hf⟩
  | succ n ih =>
    refine ⟨fun ⟨j, hj, e⟩ => ?_, fun h => ?_⟩
    · by_cases hex : ∃ j, j < n ∧ Ph j = g
      · have := ih.1 hex
        unfold sweep
        split
        · simp [this]
        · exact this
      · have hall : ∀ j, j < n → Ph j ≠ g := fun j hj e => hex ⟨j, hj, e⟩
        have hjn : j = n := by
          by_cases h1 : j < n
          · exact absurd e (hall j h1)
          · omega
        subst hjn
        have h2 := ih.2 hall
        unfold sweep
        rw [if_pos (by rw [e]; exact h2)]
        simp [e]
    · have h2 := ih.2 (fun j hj => h j (by omega))
      unfold sweep
      split
      · show setB _ _ _ g = true
        rw [setB_other _ _ _ _ (fun e => h n (by omega) e.symm)]
        exact h2
      · exact h2
theorem sweep_without (Ph : Nat → Int) (f : Int → Bool) (g : Int) (n : Nat) : (sweep Ph f n).1.filter (fun y => y != g) = (sweep Ph (setB f g false) n).1 ∧ ∀ y, y ≠ g → (sweep Ph f n).2 y = (sweep Ph (setB f g false) n).2 y := by
  induction n with
  | zero => exact ⟨by simp [sweep], fun y hy => by simp [sweep, setB, hy]⟩
  | succ n ih =>
    have hoff := (sweep_off Ph (setB f g false) g (setB_same _ _ _) n).2
    by_cases hg : Ph n = g
    · have hr : sweep Ph (setB f g false) (n + 1) = sweep Ph (setB f g false) n := by
        rw [sweep, if_neg (by rw [hg, hoff]; simp)]
      rw [hr]
      by_cases hb : (sweep Ph f n).2 (Ph n) = true
      · have hl : sweep Ph f (n + 1) = ((sweep Ph f n).1 ++ [Ph n], setB (sweep Ph f n).2 (Ph n) false) := by rw [sweep, if_pos hb]
        rw [hl]
        refine ⟨?_, fun y hy => ?_⟩
        · show List.filter _ ((sweep Ph f n).1 ++ [Ph n]) = _
          rw [List.filter_append, ih.1]
          simp [hg]
        · show setB _ _ _ y = _
          rw [setB_other _ _ _ _ (by rw [hg]; exact hy)]
          exact ih.2 y hy
      · have hl : sweep Ph f (n + 1) = sweep Ph f n := by rw [sweep, if_neg hb]
        rw [hl]
        exact ih
    · have he := ih.2 (Ph n) hg
      by_cases hb : (sweep Ph f n).2 (Ph n) = true
      · have hb' : (sweep Ph (setB f g false) n).2 (Ph n) = true := by rw [← he]; exact hb
        rw [sweep, sweep, if_pos hb, if_pos hb']
        refine ⟨?_, fun y hy => ?_⟩
        · simp only
          rw [List.filter_append, ih.1]
          simp [hg]
        · show setB _ _ _ y = setB _ _ _ y
          unfold setB
          rw [ih.2 y hy]
          rfl
      · have hb' : ¬ (sweep Ph (setB f g false) n).2 (Ph n) = true := by rw [← he]; exact hb
        rw [sweep, sweep, if_neg hb, if_neg hb']
        exact ih
theorem ints_getD (L : List Int) : ints (fun j => L.getD j 0) L.length = L := by
  apply List.ext_getElem?
  intro i
  unfold ints
  by_cases h : i < L.length
  · simp [h]
  · simp [h]
theorem hasI_list (L : List Int) (g : Int) : hasI (fun j => L.getD j 0) L.length g = decide (g ∈ L) := by
  by_cases h : g ∈ L
  · rw [decide_eq_true h]
    obtain ⟨i, hi, e⟩ := List.mem_iff_getElem.1 h
    exact hasI_true ⟨i, hi, by simp [hi, e]⟩
  · rw [decide_eq_false h]
    refine hasI_false (fun j hj e => h ?_)
    rw [← e]
    rw [List.getD_eq_getElem?_getD, List.getElem?_eq_getElem hj]
    exact List.getElem_mem hj
end Go.Proofs.Qxb6605248a
