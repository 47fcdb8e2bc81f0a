/- States: what it computes; the map of states, at the operations. -/
import Derived.Test.Qxb6605248aOwedA
import Derived.Test.Qxb6605248aStA
set_option linter.unusedVariables false
namespace Go.Proofs.Qxb6605248a
open Go.RowKit Go.Maps

/-- a task's state -/
structure St where
  last : Rec
  ticked : Bool
  att : Int
  uw : Bool
  car : Bool
def St.val (s : St) : Value := .agg #[.string s.last.task, .pointer s.last.gate, .bool s.last.disp, .int .i64 s.last.att, .bool s.last.ver, .string s.last.ev, .int .i64 s.last.pid, .string s.last.boot, .int .u64 s.last.start, .int .i64 s.last.sess, .string s.last.reason, .bool s.ticked, .int .i64 s.att, .bool s.uw, .bool s.car]
def St.zero : St := ⟨Rec.zero, false, 0, false, false⟩
def startS : ByteArray := ⟨#[115, 116, 97, 114, 116, 101, 100]⟩
def tickS : ByteArray := ⟨#[116, 105, 99, 107, 101, 100]⟩
def emptyS : ByteArray := ⟨#[]⟩
def St.reset (s : St) : St := { s with att := 0, uw := false, car := decide (s.last.ev = startS) }
def St.step (s : St) (r : Rec) : St :=
  if r.ev = tickS then { s with ticked := true }
  else { last := r, ticked := false, att := if (!s.uw && (decide (r.ev = startS) || !s.car)) = true then s.att + 1 else s.att, uw := decide (r.ev = startS), car := false }
def setF (f : ByteArray → Option St) (k : ByteArray) (s : St) (x : ByteArray) : Option St := if x = k then some s else f x
def resetF (f : ByteArray → Option St) (x : ByteArray) : Option St := (f x).map St.reset
def Rec.isStart (r : Rec) : Bool := r.disp && decide (r.ev = startS)
def preF (f : ByteArray → Option St) (r : Rec) : ByteArray → Option St := if r.isStart = true then resetF f else f
def stepF (f : ByteArray → Option St) (r : Rec) : ByteArray → Option St :=
  if r.task = emptyS then preF f r else setF (preF f r) r.task (((preF f r r.task).getD St.zero).step r)
/-- the states behind the first k records -/
def stF (rc : Nat → Rec) : Nat → ByteArray → Option St
  | 0 => fun _ => none
  | k + 1 => stepF (stF rc k) (rc k)
/-- how many states there are -/
def szF (rc : Nat → Rec) : Nat → Nat
  | 0 => 0
  | k + 1 => if (rc k).task = emptyS ∨ (stF rc k (rc k).task).isSome = true then szF rc k else szF rc k + 1
theorem szF_le (rc : Nat → Rec) (k : Nat) : szF rc k ≤ k := by
  induction k with
  | zero => exact Nat.le_refl _
  | succ k ih =>
    unfold szF
    split <;> omega
theorem preF_isSome (f : ByteArray → Option St) (r : Rec) (x : ByteArray) : (preF f r x).isSome = (f x).isSome := by
  unfold preF resetF
  split <;> simp
/-- attempts stay small -/
def AttLe (f : ByteArray → Option St) (k : Nat) : Prop := ∀ x s, f x = some s → 0 ≤ s.att ∧ s.att ≤ k
theorem AttLe.pre {f : ByteArray → Option St} {k : Nat} (h : AttLe f k) (r : Rec) : AttLe (preF f r) k := by
  intro x s hs
  unfold preF resetF at hs
  split at hs
  · obtain ⟨t, ht, rfl⟩ := Option.map_eq_some_iff.1 hs
    simp [St.reset]
  · exact h x s hs
theorem AttLe.getD {f : ByteArray → Option St} {k : Nat} (h : AttLe f k) (x : ByteArray) : 0 ≤ ((f x).getD St.zero).att ∧ ((f x).getD St.zero).att ≤ k := by
  cases hf : f x with
  | none => simp [St.zero]
  | some s => exact h x s hf
theorem attLe (rc : Nat → Rec) (k : Nat) : AttLe (stF rc k) k := by
  induction k with
  | zero => intro x s hs; cases hs
  | succ k ih =>
    have h1 := ih.pre (rc k)
    have h2 := h1.getD (rc k).task
    intro x s hs
    unfold stF stepF at hs
    split at hs
    · have := h1 x s hs; omega
    · unfold setF at hs
      split at hs
      · cases hs
        unfold St.step
        split
        · simp only; omega
        · simp only
          split <;> omega
      · have := h1 x s hs; omega

/-- as the map holds it -/
def holdF (f : ByteArray → Option St) : Lit → Option Value
  | .string l => (f ⟨l.toArray⟩).map St.val
  | _ => none
theorem hold_string (f : ByteArray → Option St) (s : ByteArray) : holdF f (.string s.data.toList) = (f s).map St.val := rfl
theorem putF_hold (f : ByteArray → Option St) (s : ByteArray) (t : St) : putF (holdF f) (.string s.data.toList) t.val = holdF (setF f s t) := by
  funext x
  unfold putF
  by_cases e : x = .string s.data.toList
  · subst e
    rw [if_pos (WideAt.sameKey_self (by trivial)), hold_string]
    unfold setF
    rw [if_pos rfl]
    rfl
  · rw [if_neg (by rw [Maps.sameKey_ne e]; simp)]
    cases x with
    | string l =>
      show Option.map St.val _ = Option.map St.val _
      unfold setF
      rw [if_neg (by intro h; apply e; rw [← h])]
    | _ => rfl

def MapN (w : World) (b sz : Nat) (f : ByteArray → Option St) : Prop := ∃ D : DataW Value, w.ownsMap Try.prog 9 heldR b sz D ∧ Holds D (holdF f) ∧ Maps.size D = sz
def RangeN (w : World) (b r sz : Nat) (f : ByteArray → Option St) (left : Lit → Bool) (cnt : Nat) : Prop := ∃ D : DataW Value, w.ranges Try.prog 9 heldR b r sz D left cnt ∧ Holds D (holdF f) ∧ Maps.size D = sz
theorem MapN.is {w : World} {b sz : Nat} {f : ByteArray → Option St} (h : MapN w b sz f) : MapIs w 9 b sz (holdF f) := let ⟨D, h1, h2, _⟩ := h; ⟨D, h1, h2⟩
theorem MapN.lt {w : World} {b sz : Nat} {f : ByteArray → Option St} (h : MapN w b sz f) : b < w.heap.size := h.is.lt
theorem MapN.made (w : World) : MapN (w.alloc (.map #[] 0)) w.heap.size 0 (fun _ => none) :=
  ⟨_, World.ownsMap_made w Try.prog 9 heldR, fun kl => ⟨by cases kl <;> rfl, fun v h => by cases kl <;> cases h⟩, rfl⟩
theorem MapN.of_block {w w' : World} {b sz : Nat} {f : ByteArray → Option St} (h : MapN w b sz f) (e : w'.heap[b]? = w.heap[b]?) : MapN w' b sz f := by
  obtain ⟨D, ⟨es, clock, hb, r⟩, h2, h3⟩ := h
  exact ⟨D, ⟨es, clock, e.trans hb, r⟩, h2, h3⟩
theorem RangeN.map {w : World} {b r sz : Nat} {f : ByteArray → Option St} {left : Lit → Bool} {cnt : Nat} (h : RangeN w b r sz f left cnt) : MapN w b sz f := let ⟨D, h1, h2, h3⟩ := h; ⟨D, h1.owns, h2, h3⟩
theorem RangeN.left_eq {w : World} {b r sz : Nat} {f : ByteArray → Option St} {left : Lit → Bool} {cnt : Nat} (h : RangeN w b r sz f left cnt) : w.rangeLeft b r = cnt := let ⟨D, h1, h2, h3⟩ := h; h1.left_eq
theorem RangeN.lt {w : World} {b r sz : Nat} {f : ByteArray → Option St} {left : Lit → Bool} {cnt : Nat} (h : RangeN w b r sz f left cnt) : r < w.heap.size := let ⟨D, h1, h2, h3⟩ := h; h1.lt
theorem RangeN.kept {w w' : World} {b r sz : Nat} {f : ByteArray → Option St} {left : Lit → Bool} {cnt : Nat} (h : RangeN w b r sz f left cnt) (hb : Below w.heap.size w w') : RangeN w' b r sz f left cnt := by
  have h1 := h.map.lt
  have h2 := h.lt
  obtain ⟨D, ⟨es, clock, since, seen, c0, hb1, F, hs, hD, hr, rest⟩, h4, h5⟩ := h
  exact ⟨D, ⟨es, clock, since, seen, c0, (hb.block b h1).trans hb1, F, hs, hD, (hb.block r h2).trans hr, rest⟩, h4, h5⟩

theorem tight {w : World} {b n : Nat} {D : DataW Value} (h : w.ownsMap Try.prog 9 heldR b n D) : w.ownsMap Try.prog 9 heldR b (Maps.size D) D := by
  obtain ⟨es, clock, hb, F, hs, rfl⟩ := h
  exact ⟨es, clock, hb, F, by simp [Maps.size, length_sorted], rfl⟩
theorem Holds.has {D : DataW Value} {f : ByteArray → Option St} (h : Holds D (holdF f)) (s : ByteArray) : Maps.has D (.string s.data.toList) = (f s).isSome := by
  rw [(h _).1, hold_string]
  simp
/-- some of the states are reset: those that are no longer to come -/
def mixF (f : ByteArray → Option St) (left : Lit → Bool) (x : ByteArray) : Option St := if left (.string x.data.toList) = true then f x else (f x).map St.reset

/-- how many there are behind a store -/
def upSz (f : ByteArray → Option St) (s : ByteArray) (sz : Nat) : Nat := if (f s).isSome = true then sz else sz + 1

section
variable {w : World} {ops : Array Oper} {rest : List Oper} {o : Oper} {a : Act} {Q : Exit → Act → World → Prop}
/-- 'm[k] = v' -/
theorem wpList_putN (hg : o.guard = none) (m x v : Operand) (hop : o.op = Op.mapUpdate 32 m x v) (b sz : Nat) (f : ByteArray → Option St) (hm : a.eval m = .map (some b)) (h : MapN w b sz f) (hn : sz < maxLen) (s : ByteArray) (t : St)
    (hx : a.eval x = .string s) (hs : s.size ≤ maxLen) (hv : a.eval v = t.val)
    (hK : ∀ w', MapN w' b (upSz f s sz) (setF f s t) → w.grownBy w' (some b) → wpList Try.prog ops Q rest (a.put o.dst undef) w') : wpList Try.prog ops Q (o :: rest) a w := by
  refine wpList_plain hg fun K' hK' => ?_
  obtain ⟨D, hown, hh, hsz⟩ := h
  have hkey : keyOf Try.prog 9 (.string s) = some (.string s.data.toList) := WideMaps.keyOf_string_mk Try.underlying9 hs
  obtain ⟨w', hrun, r1, r2⟩ := hown.update law9 Try.underlying32 hn hkey (val := t.val) (d := .held t.val) (ps := []) rfl
  unfold Oper.wp
  simp [execOp, hop, hm, hx, hv, hrun, Result.andThen]
  have hs1 : Maps.size (D.put (.string s.data.toList) (.held t.val)) = upSz f s sz := by
    rw [Maps.size_put (hown.tidy law9), hh.has, hsz]
    rfl
  refine hK' _ _ (hK w' ⟨_, ?_, ?_, hs1⟩ r2)
  · rw [← hs1]
    exact tight r1
  · rw [← putF_hold]
    exact hh.put hown.isMap (law9.key hkey) _

/-- 'range m' -/
theorem wpList_rangeN (hg : o.guard = none) (m : Operand) (hop : o.op = Op.range 32 m) (b sz : Nat) (f : ByteArray → Option St) (hm : a.eval m = .map (some b)) (h : MapN w b sz f)
    (hK : ∀ w' left, RangeN w' b w.heap.size sz (mixF f left) left sz → w.grownBy w' none → w'.heap.size = w.heap.size + 1 → wpList Try.prog ops Q rest (a.put o.dst (.pointer (some ⟨w.heap.size, 0, none⟩))) w') : wpList Try.prog ops Q (o :: rest) a w := by
  obtain ⟨D, hown, hh, hsz⟩ := h
  refine wpList_range_own _ hg m 32 hop 9 44 law9 Try.underlying32 heldR b sz D hm hown ?_
  intro w' h1 h2 h3
  refine hK w' (Maps.has D) ⟨D, by rw [← hsz] at h1 ⊢; exact h1, ?_, hsz⟩ h2 h3
  have e : mixF f (Maps.has D) = f := by
    funext x
    unfold mixF
    rw [hh.has]
    cases f x <;> rfl
  rw [e]
  exact hh

/-- the step -/
theorem wpList_nextN (hg : o.guard = none) (it : Operand) (hop : o.op = Op.next it false) (b r sz : Nat) (f : ByteArray → Option St) (left : Lit → Bool) (cnt : Nat) (hit : a.eval it = .pointer (some ⟨r, 0, none⟩)) (h : RangeN w b r sz f left cnt)
    (hDone : (∀ kl, left kl = false) → wpList Try.prog ops Q rest (a.put o.dst (.tuple #[.bool false])) w)
    (hMore : ∀ (s : ByteArray) (st : St) (w' : World) (cnt' : Nat), s.size ≤ maxLen → left (.string s.data.toList) = true → f s = some st → RangeN w' b r sz f (fun z => left z && !z.sameKey (.string s.data.toList)) cnt' → cnt' < cnt → w.grownBy w' (some r) → w'.heap.size = w.heap.size →
      (Instr.entry (.pointer (some ⟨r, 0, none⟩))).run Try.prog w' = .ok (.tuple #[.string s, st.val]) w' → wpList Try.prog ops Q rest (a.put o.dst (.tuple #[.bool true, .string s, st.val])) w') : wpList Try.prog ops Q (o :: rest) a w := by
  refine wpList_plain hg fun K' hK' => ?_
  unfold Oper.wp
  obtain ⟨D, hrg, hh, hsz⟩ := h
  rcases hrg.next law9 o.type with ⟨h0, hl, hrun⟩ | ⟨key, v, kl, y, w', cnt', hkey, hlk, hv, hat, hrun, hrg', hlt, hgr, hsz', hen⟩
  · simp [execOp, hop, hit, hrun, Result.andThen]
    exact hK' _ _ (hDone hl)
  · obtain ⟨s, rfl, rfl, hs⟩ : ∃ s : ByteArray, key = .string s ∧ kl = .string s.data.toList ∧ s.size ≤ maxLen := by
      cases key <;> simp [keyOf, Try.underlying9, mapKey] at hkey
      exact ⟨_, rfl, hkey.2.symm, hkey.1⟩
    have hhas : Maps.has D (.string s.data.toList) = true := by
      obtain ⟨es, clock, since, seen, c0, hb, F, hs1, rfl, hr, hold, _, hl1, hl2, hsc, hsk⟩ := hrg
      obtain ⟨x, hx, e⟩ := hl2 _ hlk
      refine List.any_eq_true.2 ⟨WideElems.rg Try.prog 9 heldR x, mem_sorted.2 (List.mem_map.2 ⟨x, hx, rfl⟩), ?_⟩
      rw [e]
      exact WideAt.sameKey_self (by trivial)
    rw [hh.has] at hhas
    obtain ⟨st, hst⟩ := Option.isSome_iff_exists.1 hhas
    have e1 := (hh (.string s.data.toList)).2 st.val (by rw [hold_string, hst]; rfl) (.held v)
    rw [hat] at e1
    have e2 : v = st.val := by
      unfold heldR at hv
      simp only [Option.some.injEq] at hv
      subst hv
      simpa using e1
    subst e2
    simp [execOp, hop, hit, hrun, Result.andThen]
    exact hK' _ _ (hMore s st w' cnt' hs hlk hst ⟨D, hrg', hh, hsz⟩ hlt hgr hsz' hen)

/-- 'm[k] = v' in the round -/
theorem wpList_putR (hg : o.guard = none) (m x v : Operand) (hop : o.op = Op.mapUpdate 32 m x v) (b r sz : Nat) (f : ByteArray → Option St) (left : Lit → Bool) (cnt : Nat) (hm : a.eval m = .map (some b)) (h : RangeN w b r sz f left cnt) (hn : sz < maxLen) (s : ByteArray) (t : St)
    (hx : a.eval x = .string s) (hs : s.size ≤ maxLen) (hv : a.eval v = t.val) (hf : (f s).isSome = true)
    (hK : ∀ w', RangeN w' b r sz (setF f s t) left cnt → w.grownBy w' (some b) → wpList Try.prog ops Q rest (a.put o.dst undef) w') : wpList Try.prog ops Q (o :: rest) a w := by
  refine wpList_plain hg fun K' hK' => ?_
  obtain ⟨D, hrg, hh, hsz⟩ := h
  have hkey : keyOf Try.prog 9 (.string s) = some (.string s.data.toList) := WideMaps.keyOf_string_mk Try.underlying9 hs
  obtain ⟨w', hrun, r1, r2, _⟩ := ranges_put hrg law9 Try.underlying32 hn hkey (val := t.val) (d := .held t.val) (ps := []) rfl (by rw [hh.has, hf])
  unfold Oper.wp
  simp [execOp, hop, hm, hx, hv, hrun, Result.andThen]
  have hs1 : Maps.size (D.put (.string s.data.toList) (.held t.val)) = sz := by
    rw [Maps.size_put (hrg.owns.tidy law9), hh.has, hsz, if_pos hf]
  refine hK' _ _ (hK w' ⟨_, r1, ?_, hs1⟩ r2)
  rw [← putF_hold]
  exact hh.put hrg.owns.isMap (law9.key hkey) _
end

theorem mix_step (f : ByteArray → Option St) (left : Lit → Bool) (s : ByteArray) (st : St) (hl : left (.string s.data.toList) = true) (hf : mixF f left s = some st) :
    setF (mixF f left) s st.reset = mixF f (fun z => left z && !z.sameKey (.string s.data.toList)) := by
  funext x
  unfold setF
  by_cases e : x = s
  · subst e
    rw [if_pos rfl]
    unfold mixF at hf ⊢
    rw [if_pos hl] at hf
    show _ = if (left _ && !(Lit.string x.data.toList).sameKey (.string x.data.toList)) = true then f x else Option.map St.reset (f x)
    rw [WideAt.sameKey_self (by trivial), hf]
    simp
  · rw [if_neg e]
    unfold mixF
    show _ = if (left _ && !(Lit.string x.data.toList).sameKey (.string s.data.toList)) = true then f x else Option.map St.reset (f x)
    rw [Maps.sameKey_ne (by intro h; apply e; have h2 : x.data.toList = s.data.toList := by injection h
                            cases x; cases s; simp only at h2 ⊢; congr 1; exact Array.toList_inj.1 h2)]
    simp
theorem mix_end (f : ByteArray → Option St) (left : Lit → Bool) (hl : ∀ kl, left kl = false) : mixF f left = resetF f := by
  funext x
  unfold mixF resetF
  rw [hl]
  rfl
theorem zero44 (w : World) : (zeroValue 44).run Try.prog w = .ok St.zero.val w := by kernel_rfl
end Go.Proofs.Qxb6605248a
