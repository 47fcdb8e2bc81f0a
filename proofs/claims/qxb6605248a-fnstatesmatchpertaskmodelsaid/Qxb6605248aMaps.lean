/- MAPS WHOSE ELEMENTS ARE WHATEVER: what a map holds as a function from keys. -/
import Derived.Test.Qxb6605248aMake
import Derived.Maps.RangeWalk
set_option linter.unusedVariables false
namespace Go.Proofs.Qxb6605248a
open Go.RowKit Go.Maps

/-- an element, held as it is -/
def heldR (v : Value) : Option (DataW Value × List MemPlace) := some (.held v, [])

/-- what the datum holds -/
def Holds (D : DataW Value) (f : Lit → Option Value) : Prop := ∀ kl, Maps.has D kl = (f kl).isSome ∧ ∀ v, f kl = some v → ∀ zd, D.atKey kl zd = .held v

/-- block b is a map that holds f -/
def MapIs (w : World) (kt : TypeId) (b n : Nat) (f : Lit → Option Value) : Prop := ∃ D : DataW Value, w.ownsMap Try.prog kt heldR b n D ∧ Holds D f

def putF (f : Lit → Option Value) (k : Lit) (v : Value) (x : Lit) : Option Value := if x.sameKey k = true then some v else f x

theorem MapIs.made (w : World) (kt : TypeId) : MapIs (w.alloc (.map #[] 0)) kt w.heap.size 0 (fun _ => none) :=
  ⟨_, World.ownsMap_made w Try.prog kt heldR, fun kl => ⟨rfl, fun v h => by cases h⟩⟩
theorem MapIs.mono {w : World} {kt : TypeId} {b n n' : Nat} {f : Lit → Option Value} (h : MapIs w kt b n f) (hn : n ≤ n') : MapIs w kt b n' f := let ⟨D, h1, h2⟩ := h; ⟨D, h1.mono hn, h2⟩
theorem MapIs.lt {w : World} {kt : TypeId} {b n : Nat} {f : Lit → Option Value} (h : MapIs w kt b n f) : b < w.heap.size := let ⟨D, h1, h2⟩ := h; h1.lt
theorem MapIs.of_block {w w' : World} {kt : TypeId} {b n : Nat} {f : Lit → Option Value} (h : MapIs w kt b n f) (e : w'.heap[b]? = w.heap[b]?) : MapIs w' kt b n f := by
  obtain ⟨D, ⟨es, clock, hb, r⟩, h2⟩ := h
  exact ⟨D, ⟨es, clock, e.trans hb, r⟩, h2⟩

theorem Holds.none_atKey {D : DataW Value} {f : Lit → Option Value} (h : Holds D f) {kl : Lit} (hn : f kl = none) (z : DataW Value) : D.atKey kl z = z := by
  have h1 := (h kl).1
  rw [hn] at h1
  exact Maps.atKey_of_not_has (by simpa using h1) z

theorem Holds.value {D : DataW Value} {f : Lit → Option Value} (h : Holds D f) {kl : Lit} {v z : Value} {ps : List MemPlace} (hv : heldR v = some (D.atKey kl (.held z), ps)) : v = (f kl).getD z := by
  unfold heldR at hv
  simp only [Option.some.injEq, Prod.mk.injEq] at hv
  cases hf : f kl with
  | none =>
    rw [h.none_atKey hf] at hv
    have := hv.1
    simp only [DataW.held.injEq] at this
    rw [this]; rfl
  | some u =>
    rw [(h kl).2 u hf] at hv
    have := hv.1
    simp only [DataW.held.injEq] at this
    rw [this]; rfl

theorem Holds.put {D : DataW Value} {f : Lit → Option Value} (h : Holds D f) (hD : Maps.IsMap D) {k : Lit} (hk : WideAt.IsKeyLit k) (v : Value) : Holds (D.put k (.held v)) (putF f k v) := by
  intro kl
  unfold putF
  by_cases e : kl = k
  · subst e
    rw [if_pos (WideAt.sameKey_self hk)]
    refine ⟨Maps.has_put_same hD hk _, fun u hu zd => ?_⟩
    cases hu
    exact Maps.atKey_put_same hD hk _ _
  · rw [if_neg (by rw [Maps.sameKey_ne e]; simp)]
    exact ⟨by rw [Maps.has_put_other e]; exact (h kl).1, fun u hu zd => by rw [Maps.atKey_put_other e]; exact (h kl).2 u hu zd⟩

section
variable {w : World} {ops : Array Oper} {rest : List Oper} {o : Oper} {a : Act} {Q : Exit → Act → World → Prop}

/-- 'm[k]' -/
theorem wpList_look (hg : o.guard = none) (m x : Operand) (t : TypeId) (hop : o.op = Op.lookup t m x false) (k e : TypeId) (K : Keyed Try.prog k) (ht : Try.prog.underlying t = some (.map k e)) (z : Value) (hz : (zeroValue e).run Try.prog w = .ok z w)
    (b n : Nat) (f : Lit → Option Value) (hm : a.eval m = .map (some b)) (h : MapIs w k b n f) (key : Value) (kl : Lit) (hx : a.eval x = key) (hkey : keyOf Try.prog k key = some kl)
    (hK : wpList Try.prog ops Q rest (a.put o.dst ((f kl).getD z)) w) : wpList Try.prog ops Q (o :: rest) a w := by
  refine wpList_plain hg fun K' hK' => ?_
  obtain ⟨D, hown, hh⟩ := h
  obtain ⟨v, ps, hrun, hv⟩ := hown.lookup K ht hz (zd := .held z) (zp := []) rfl hkey
  obtain rfl := hh.value hv
  unfold Oper.wp
  simp [execOp, hop, hm, hx, hrun, Result.andThen]
  exact hK' _ _ hK

/-- 'v, ok := m[k]' -/
theorem wpList_look_ok (hg : o.guard = none) (m x : Operand) (t : TypeId) (hop : o.op = Op.lookup t m x true) (k e : TypeId) (K : Keyed Try.prog k) (ht : Try.prog.underlying t = some (.map k e)) (z : Value) (hz : (zeroValue e).run Try.prog w = .ok z w)
    (b n : Nat) (f : Lit → Option Value) (hm : a.eval m = .map (some b)) (h : MapIs w k b n f) (key : Value) (kl : Lit) (hx : a.eval x = key) (hkey : keyOf Try.prog k key = some kl)
    (hK : wpList Try.prog ops Q rest (a.put o.dst (.tuple #[(f kl).getD z, .bool (f kl).isSome])) w) : wpList Try.prog ops Q (o :: rest) a w := by
  refine wpList_plain hg fun K' hK' => ?_
  obtain ⟨D, hown, hh⟩ := h
  obtain ⟨v, ps, hrun, hv⟩ := hown.look_ok K ht hz (zd := .held z) (zp := []) rfl hkey
  obtain rfl := hh.value hv
  rw [(hh kl).1] at hrun
  unfold Oper.wp
  simp [execOp, hop, hm, hx, hrun, Result.andThen]
  exact hK' _ _ hK

/-- 'm[k] = v' -/
theorem wpList_put (hg : o.guard = none) (m x v : Operand) (t : TypeId) (hop : o.op = Op.mapUpdate t m x v) (k e : TypeId) (K : Keyed Try.prog k) (ht : Try.prog.underlying t = some (.map k e))
    (b n : Nat) (f : Lit → Option Value) (hm : a.eval m = .map (some b)) (h : MapIs w k b n f) (hn : n < maxLen) (key val : Value) (kl : Lit) (hx : a.eval x = key) (hv : a.eval v = val) (hkey : keyOf Try.prog k key = some kl)
    (hK : ∀ w', MapIs w' k b (n + 1) (putF f kl val) → w.grownBy w' (some b) → wpList Try.prog ops Q rest (a.put o.dst undef) w') : wpList Try.prog ops Q (o :: rest) a w := by
  refine wpList_plain hg fun K' hK' => ?_
  obtain ⟨D, hown, hh⟩ := h
  obtain ⟨w', hrun, r1, r2⟩ := hown.update K ht hn hkey (val := val) (d := .held val) (ps := []) rfl
  unfold Oper.wp
  simp [execOp, hop, hm, hx, hv, hrun, Result.andThen]
  exact hK' _ _ (hK w' ⟨_, r1, hh.put hown.isMap (K.key hkey) val⟩ r2)
end

theorem below_grown {B b : Nat} {w w' : World} (h : w.grownBy w' (some b)) (hb : B ≤ b) (hB : B ≤ w.heap.size) : Below B w w' :=
  ⟨h.os, h.tape, h.output, h.size, fun k hk => h.block k (by omega) (by intro e; cases e; omega)⟩
theorem law9 : Keyed Try.prog 9 := string_keyed Try.underlying9
theorem law3 : Keyed Try.prog 3 := int_keyed Try.underlying3
theorem zero3 (w : World) : (zeroValue 3).run Try.prog w = .ok (.int .i64 0) w := by kernel_rfl
theorem zero4 (w : World) : (zeroValue 4).run Try.prog w = .ok (.bool false) w := by kernel_rfl
end Go.Proofs.Qxb6605248a
