/- zzWithout, walked; slices of ints that the call makes. -/
import Derived.Test.Qxb6605248aMaps
set_option linter.unusedVariables false
namespace Go.Proofs.Qxb6605248a
open Go.RowKit Go.Maps

/-- the first n -/
def ints (X : Nat → Int) (n : Nat) : List Int := (List.range n).map X
theorem ints_succ (X : Nat → Int) (n : Nat) : ints X (n + 1) = ints X n ++ [X n] := by simp [ints, List.range_succ]
theorem ints_len (X : Nat → Int) (n : Nat) : (ints X n).length = n := by simp [ints]
theorem info3 : (Try.prog.info? 3).map (fun i => (i.zero, i.size, i.bytes)) = some (some (.int .i64 0), 1, 8) := by kernel_rfl

/-- v is a slice of the call's own that holds L -/
def OwnInts (w : World) (B : Nat) (v : Value) (L : List Int) : Prop := w.ownsRow B 3 1 v L.length (L.map (Value.int .i64))
theorem OwnInts.row {w : World} {B : Nat} {v : Value} {L : List Int} (h : OwnInts w B v L) : ∃ a c g, v = .slice a L.length c ∧ (a ≠ none → B ≤ g ∧ g < w.heap.size) ∧ Row w a L.length g 0 (fun j => .int .i64 (L.getD j 0)) := by
  obtain ⟨h1, h2⟩ := h
  rcases h2 with ⟨h3, h4⟩ | ⟨g, cap, cur, h3, h4, h5, h6, h7, h8, h9⟩
  · exact ⟨none, 0, 0, by rw [h3, h4], fun h => absurd rfl h, fun h => by omega, fun _ => h4, fun j hj => by omega⟩
  · refine ⟨some ⟨g, 0, none⟩, cap, g, h3, fun _ => ⟨h4, (Array.getElem?_eq_some_iff.1 h5).1⟩, fun _ => rfl, fun h => by simp at h, fun j hj => ?_⟩
    have hown : w.ownsRow B 3 1 (.slice (some ⟨g, 0, none⟩) L.length cap) L.length (L.map (Value.int .i64)) := ⟨h1, .inr ⟨g, cap, cur, rfl, h4, h5, h6, h7, h8, h9⟩⟩
    have hc := hown.cellAt j (by omega)
    rw [Nat.zero_add, hc, List.getElem?_map, List.getElem?_eq_getElem hj]
    show some (Value.int .i64 L[j]) = some (Value.int .i64 (L.getD j 0))
    rw [List.getD_eq_getElem?_getD, List.getElem?_eq_getElem hj]
    rfl
theorem OwnInts.of_below {w w' : World} {B : Nat} {v : Value} {L : List Int} (h : OwnInts w B v L) (hb : Below w.heap.size w w') : OwnInts w' B v L := by
  refine World.ownsRow.kept (row := none) h ⟨hb.os, hb.tape, hb.output, hb.size, fun k hk _ => hb.block k hk⟩ ?_
  cases hv : v.ownBlock with
  | none => exact .inl rfl
  | some x => exact .inr (by simp)

section
variable {w : World} {ops : Array Oper} {rest : List Oper} {o : Oper} {a : Act} {Q : Exit → Act → World → Prop}
/-- 'append(v, x)', x an int -/
theorem wpList_push (hgd : o.guard = none) (s x : Operand) (ho : o.op = .call { callee := .builtin .append, args := #[s, x], argTypes := #[25, 25] })
    (B : Nat) (v : Value) (L : List Int) (hs : a.eval s = v) (hown : OwnInts w B v L) (p : Nat) (y : Int) (hx : a.eval x = .slice (some ⟨p, 0, none⟩) 1 1) (hy : w.cell? ⟨p, 0, none⟩ = some (.int .i64 y))
    (hL : L.length ≤ 65536) (hB : B ≤ w.heap.size)
    (h : ∀ v' w', OwnInts w' B v' (L ++ [y]) → w.grownBy w' v.ownBlock → wpList Try.prog ops Q rest (a.put o.dst v') w') : wpList Try.prog ops Q (o :: rest) a w := by
  obtain ⟨i0, hi, hz0, hz1, hz2⟩ := info_parts info3
  refine wpList_append_own _ hgd s x 25 ho B 3 i0 (.int .i64 0) 1 8 Try.underlying25 hi hz0 hz1 hz2 rfl (by decide) v L.length _ hs hown ⟨p, 0, none⟩ 1 1 [.int .i64 y] hx rfl ?_ ?_ (by unfold maxLen; omega) (by omega) hB ?_
  · intro j u hj
    match j, hj with
    | 0, hj => simp at hj; subst hj; simpa [Addr.add] using hy
  · intro u hu
    simp at hu
    subst hu
    rfl
  · intro v' w' h1 h2 _
    refine h v' w' ?_ h2
    unfold OwnInts
    rw [List.length_append, List.map_append]
    exact h1
end

set_option maxHeartbeats 2000000 in
theorem without28 (a : Option Addr) (n c b o : Nat) (X : Nat → Int) (g : Int) (w : World) (h : Row w a n b o (fun j => .int .i64 (X j))) (hn : n ≤ 4096) :
    Calls Try.prog 28 #[.slice a n c, .int .i64 g] w fun e w' => ∃ v, e = .returned v ∧ OwnInts w' w.heap.size v ((ints X n).filter (fun y => y != g)) ∧ Below w.heap.size w w' := by
  have HR : Hid (Row w a n b o (fun j => .int .i64 (X j))) := h
  clear h
  obtain ⟨i0, hi, hz0, hz1, hz2⟩ := info_parts info3
  have hmk := run_make (P := Try.prog) w 25 3 i0 (.int .i64 0) Try.underlying25 hi hz0 .i64 .i64 0 n (by omega) (by omega) (by rw [hz2]; omega) (by omega)
  rw [hz1] at hmk
  have HL : Hid (∀ k, ((ints X k).filter (fun y => y != g)).length ≤ k) := fun k => by
    have := List.length_filter_le (fun y => y != g) (ints X k)
    rw [ints_len] at this
    exact this
  go_enter Try.func28, Try.ntmps28
  go_wp2_with fail
  clear hmk
  go_loopw [5, 6] (fun v i wr => ∃ k : Nat, k ≤ n ∧ i = .int .i64 k ∧ Hid (OwnInts wr w.heap.size v ((ints X k).filter (fun y => y != g))) ∧ Hid (Below w.heap.size w wr)) (fun _ i _ => n - (intOf i).toNat)
  case atStart =>
    refine ⟨0, Nat.zero_le _, rfl, ?_, (Below.refl _ _).alloc (Nat.le_refl _) _⟩
    exact World.ownsRow_made w _ n (Nat.le_refl _) (by unfold maxLen; omega) (by simp [size_madeCells])
  case round =>
    obtain ⟨k, hk, rfl, HO, HB⟩ := hrel
    have hB := HB.out.size
    by_cases hlt : k < n
    · obtain rfl : a = some ⟨b, o, none⟩ := HR.out.1 (by omega)
      have r1 : wr.cell? ⟨b, o + k, none⟩ = some (.int .i64 (X k)) := cell_later HB.out (HR.out.2.2 k hlt)
      have i0 : (0 : Int) ≤ (k : Int) := by omega
      have i1 : (k : Int) < (n : Int) := by omega
      by_cases hx : X k = g
      · have HS : Hid ((ints X (k + 1)).filter (fun y => y != g) = (ints X k).filter (fun y => y != g)) := by
          show _ = _
          rw [ints_succ, List.filter_append]
          simp [hx]
        go_wp2_with fail
        go_roundw
        case rel => exact ⟨k + 1, by omega, by go_num, by rw [HS.out]; exact HO, HB⟩
        case measure => simp [intOf]; omega
      · have HS : Hid ((ints X (k + 1)).filter (fun y => y != g) = (ints X k).filter (fun y => y != g) ++ [X k]) := by
          show _ = _
          rw [ints_succ, List.filter_append]
          simp [hx]
        have hL := HL.out k
        go_wp2_with (first | (refine wpList_push rfl _ _ rfl w.heap.size _ ((ints X k).filter (fun y => y != g)) rfl ?k2 wr.heap.size (X k) ?k3 ?c1 ?c2 ?c3 ?_))
        case k2 => exact World.ownsRow.alloc HO.out _
        case k3 => rfl
        case c1 => simp
        case c2 => omega
        case c3 => simp; omega
        · intro v' w1 hown' hgrow
          have HO1 : Hid (OwnInts w1 w.heap.size v' ((ints X (k + 1)).filter (fun y => y != g))) := by rw [HS.out]; exact hown'
          have HB1 : Hid (Below w.heap.size w w1) := (HB.out.alloc hB _).grown hgrow (by simp; omega) (fun x hx => (World.ownsRow.lt HO.out x hx).1)
          clear hown' hgrow
          go_wp2_with fail
          go_roundw
          case rel => exact ⟨k + 1, by omega, by go_num, HO1, HB1⟩
          case measure => simp [intOf]; omega
    · obtain rfl : k = n := by omega
      go_wp2_with fail
      go_ret
      exact ⟨_, rfl, HO.out, HB.out⟩
end Go.Proofs.Qxb6605248a
