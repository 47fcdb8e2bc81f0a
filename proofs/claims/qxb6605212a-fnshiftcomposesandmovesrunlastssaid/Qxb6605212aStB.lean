/- THE COPY OF A SLICE OF RUNS (zToRuns), walked. -/
import Derived.Test.Qxb6605212aStA
namespace Go.Proofs.Qxb6605212a
open Go.RowKit
attribute [local go_sem] run_store_flt

theorem heap_set (w : World) (g o : Nat) (v : Value) (j : Nat) (h : j ≠ g) : (w.setCell ⟨g, o, none⟩ v).heap[j]? = w.heap[j]? := Below.heap_setCell w ⟨g, o, none⟩ v j h

/-- what is known of the floats of the first k runs -/
def CopiedF (r : RIn) (B : Nat → FOwn) (lo : Nat) (w : World) (k : Nat) : Prop :=
  ∀ j, j < k → (B j).n = (r.B j).n ∧ (B j).x = (r.B j).x ∧ (B j).a.isNone = (r.B j).a.isNone ∧ (B j).Own w ∧ ((B j).a ≠ none → lo < (B j).g)

theorem CopiedF.later {r : RIn} {B : Nat → FOwn} {lo k : Nat} {w w' : World} (h : CopiedF r B lo w k) (hb : ∀ j, lo < j → j < w.heap.size → w'.heap[j]? = w.heap[j]?) : CopiedF r B lo w' k := by
  intro j hj
  obtain ⟨h1, h2, h3, h4, h5⟩ := h j hj
  exact ⟨h1, h2, h3, h4.of_block (fun ha => hb _ (h5 ha) (h4.lt ha)), h5⟩

theorem CopiedF.step {r : RIn} {B : Nat → FOwn} {lo k : Nat} {w : World} (h : CopiedF r B lo w k) (o : FOwn) (h1 : o.n = (r.B k).n) (h2 : o.x = (r.B k).x) (h3 : o.a.isNone = (r.B k).a.isNone) (h4 : o.Own w) (h5 : o.a ≠ none → lo < o.g) :
    CopiedF r (fun j => if j = k then o else B j) lo w (k + 1) := by
  intro j hj
  by_cases e : j = k
  · subst e
    simp only [if_pos]
    exact ⟨h1, h2, h3, h4, h5⟩
  · simp only [if_neg e]
    exact h j (by omega)

set_option maxHeartbeats 2000000 in
theorem runs26 (r : RIn) (w : World) (hn : r.n ≤ 65536) (hnB : ∀ j, j < r.n → (r.B j).n ≤ 1048576) (hnn : r.a.isNone = false) (h : r.In w) :
    Calls Try.prog 26 #[.slice r.a r.n r.c] w fun e w' => ∃ g B, e = .returned (.slice (some ⟨g, 0, none⟩) r.n r.n) ∧ w.heap.size ≤ g ∧ w'.rowIs g 43 (r.n * 4) (runCell r.S r.F r.E B r.n) ∧ CopiedF r B g w' r.n ∧ Below w.heap.size w w' := by
  obtain ⟨a, n, c, b, o, S, F, E, FB⟩ := r
  simp only at hn hnB hnn ⊢
  have q := fun w a n c => Lib.run_eql_slice_nil (P := Try.prog) w 30 68 a n c 0 0 Try.underlying30
  have hmk := fun w => run_make_many (P := Try.prog) 35 43 _ 4 48 Try.underlying35 info43 n (by omega) (by omega) w
  have HR : Hid (RIn.In ⟨a, n, c, b, o, S, F, E, FB⟩ w) := h
  have HB : Hid (∀ j, j < n → (FB j).n ≤ 1048576) := hnB
  clear h hnB
  go_enter Try.func26, Try.ntmps26
  go_wp2
  go_loopw [4] (fun i wr => ∃ k : Nat, ∃ B : Nat → FOwn, k ≤ n ∧ i = .int .i64 k ∧ wr.rowIs w.heap.size 43 (n * 4) (runCell S F E B k) ∧ CopiedF ⟨a, n, c, b, o, S, F, E, FB⟩ B w.heap.size wr k ∧ Below w.heap.size w wr) (fun i _ => n - (intOf i).toNat)
  case atStart =>
    refine ⟨0, fun _ => ⟨none, 0, 0, fun _ => 0⟩, Nat.zero_le _, rfl, ?_, fun j hj => by omega, (Below.refl _ _).alloc (Nat.le_refl _) _⟩
    refine (rowIs_made_many w _ (n * 4) 43).congr ?_
    intro i hi
    simp only [runCell, Nat.not_lt_zero, if_false]
    have hz : ∀ j, j < 4 → (#[Value.int .i64 0, Value.int .i64 0, Value.int .i64 0, Value.slice none 0 0] : Array Value)[j]! = if j = 3 then Value.slice none 0 0 else Value.int .i64 0 := by
      intro j hj
      match j, hj with
      | 0, _ => rfl
      | 1, _ => rfl
      | 2, _ => rfl
      | 3, _ => rfl
    exact hz (i % 4) (Nat.mod_lt _ (by omega))
  case round =>
    obtain ⟨k, B, hk, rfl, hrow, hcop, hbel⟩ := hrel
    by_cases hlt : k < n
    · obtain rfl : a = some ⟨b, o, none⟩ := HR.out.1 (by show 0 < n; omega)
      obtain ⟨t0, t1, t2, t3, t4⟩ := HR.out.2.2 k hlt
      have r0 : wr.cell? ⟨b, o + k * 4, none⟩ = some (.int .i64 (S k)) := cell_later hbel t0
      have r1 : wr.cell? ⟨b, o + k * 4 + 1, none⟩ = some (.int .i64 (F k)) := cell_later hbel t1
      have r2 : wr.cell? ⟨b, o + k * 4 + 2, none⟩ = some (.int .i64 (E k)) := cell_later hbel t2
      have r3 : wr.cell? ⟨b, o + k * 4 + 3, none⟩ = some (.slice (FB k).a (FB k).n (FB k).c) := cell_later hbel t3
      have r4 : Hid ((FB k).In wr) := FIn.In.later t4 hbel
      have HC : Hid (CopiedF ⟨some ⟨b, o, none⟩, n, c, b, o, S, F, E, FB⟩ B w.heap.size wr k) := hcop
      clear t0 t1 t2 t3 t4 hcop
      have i0 : (0 : Int) ≤ (k : Int) := by omega
      have i1 : (k : Int) < (n : Int) := by omega
      have hltB : b < w.heap.size := by
        have := HR.out.2.2 k hlt
        exact World.block_lt_of_cell? _ _ this.1
      have hne : ¬ b = w.heap.size := by omega
      have hne2 : ¬ w.heap.size = b := fun h => hne h.symm
      go_wp2
      go_region_held3 (fun w' => w'.cell? ⟨b, o + k * 4, none⟩ = some (.int .i64 (S k)) ∧ w'.cell? ⟨b, o + k * 4 + 1, none⟩ = some (.int .i64 (F k)) ∧ w'.cell? ⟨b, o + k * 4 + 2, none⟩ = some (.int .i64 (E k)) ∧ w'.cell? ⟨b, o + k * 4 + 3, none⟩ = some (.slice (FB k).a (FB k).n (FB k).c)) (first | go_keep | (exact ⟨cell_later hb2 r0, cell_later hb2 r1, cell_later hb2 r2, cell_later hb2 r3⟩)) ((go_at_call 33; refine (floats33_own (FB k) _ (HB.out k hlt) (by exact r4.out)).mono ?_; rintro e w2 ⟨ow, rfl, on, ox, oa, oown, og, hb2⟩; have HO : Hid (ow.n = (FB k).n ∧ ow.x = (FB k).x ∧ ow.a.isNone = (FB k).a.isNone ∧ ow.Own w2 ∧ (ow.a ≠ none → wr.heap.size ≤ ow.g)) := ⟨on, ox, oa, oown, og⟩; clear on ox oa oown og; have hrow2 := hrow.of_block (hb2.block w.heap.size (by exact hrow.lt)); have s0 := hrow2.cell (i := k * 4) (by omega); have s1 := hrow2.cell (i := k * 4 + 1) (by omega); have s2 := hrow2.cell (i := k * 4 + 2) (by omega); have s3 := hrow2.cell (i := k * 4 + 3) (by omega); have f0 := hrow2.frozen (k * 4); have f1 := hrow2.frozen (k * 4 + 1); have f2 := hrow2.frozen (k * 4 + 2); have f3 := hrow2.frozen (k * 4 + 3)))
      have hrow3 : w2.rowIs w.heap.size 43 (n * 4) (runCell S F E (fun j => if j = k then ow else B j) k) := hrow2.congr (fun i _ => runCell_congr S F E B _ k i (fun j hj => by rw [if_neg (by omega)]))
      have hstep := runCell_step S F E (fun j => if j = k then ow else B j) w2 w.heap.size (n * 4) k hrow3
      have hwlt : w.heap.size < wr.heap.size := hrow.lt
      have hcop2 : CopiedF ⟨some ⟨b, o, none⟩, n, c, b, o, S, F, E, FB⟩ (fun j => if j = k then ow else B j) w.heap.size w2 (k + 1) := by
        have h1 : CopiedF ⟨some ⟨b, o, none⟩, n, c, b, o, S, F, E, FB⟩ B w.heap.size w2 k := HC.out.later (fun j _ h2 => hb2.block j h2)
        obtain ⟨on, ox, oa, oown, og⟩ := HO.out
        exact h1.step ow on ox oa oown (fun h => Nat.lt_of_lt_of_le hwlt (og h))
      have HST : Hid (_ ∧ _) := ⟨hstep, hcop2⟩
      have hbel2 : Below w.heap.size w w2 := hbel.trans (Below.trans (Below.refl _ _).drew (hb2.mono (by show w.heap.size ≤ wr.heap.size; omega)))
      clear hrow hrow2 hrow3 hstep hcop2 HC HO s0 s1 s2 s3 f0 f1 f2 f3 r0 r1 r2 r3 hb2
      go_wp2
      go_roundw
      case rel =>
        refine ⟨k + 1, fun j => if j = k then ow else B j, by omega, by go_num, ?_, ?_, ?_⟩
        · have := HST.out.1
          simp only [if_true] at this
          exact this
        · refine HST.out.2.later (fun j h1 h2 => ?_)
          have hj : j ≠ w.heap.size := by omega
          rw [heap_set _ _ _ _ _ hj, heap_set _ _ _ _ _ hj, heap_set _ _ _ _ _ hj, heap_set _ _ _ _ _ hj]
        · exact (((hbel2.setCell (by simp) _).setCell (by simp) _).setCell (by simp) _).setCell (by simp) _
      case measure => simp [intOf]; omega
    · obtain rfl : k = n := by omega
      go_wp2
      go_ret
      exact ⟨_, B, rfl, Nat.le_refl _, hrow, hcop, hbel⟩
/-- the copy of a slice of runs, nil or not -/
theorem runs26_own (r : RIn) (w : World) (hn : r.n ≤ 65536) (hnB : ∀ j, j < r.n → (r.B j).n ≤ 1048576) (h : r.In w) :
    Calls Try.prog 26 #[.slice r.a r.n r.c] w fun e w' => ∃ o : ROwn, e = .returned (.slice o.a o.n o.n) ∧ o.n = r.n ∧ o.S = r.S ∧ o.F = r.F ∧ o.E = r.E ∧ o.a.isNone = r.a.isNone ∧ o.Own w' ∧ (o.a ≠ none → w.heap.size ≤ o.g) ∧ CopiedF r o.B o.g w' r.n ∧ Below w.heap.size w w' := by
  cases hnn : r.a.isNone with
  | true =>
    have ha : r.a = none := by cases hf : r.a with | none => rfl | some x => rw [hf] at hnn; simp at hnn
    obtain ⟨h1, h2⟩ := h.2.1 ha
    rw [ha, h1, h2]
    refine (runs26_nil w).mono ?_
    rintro e w' ⟨rfl, rfl⟩
    exact ⟨⟨none, 0, 0, r.S, r.F, r.E, fun _ => ⟨none, 0, 0, fun _ => 0⟩⟩, rfl, rfl, rfl, rfl, rfl, rfl, .inl ⟨rfl, rfl⟩, fun h => absurd rfl h, fun j hj => by omega, Below.refl _ _⟩
  | false =>
    refine (runs26 r w hn hnB hnn h).mono ?_
    rintro e w' ⟨g, B, rfl, hg, hrow, hcop, hbel⟩
    exact ⟨⟨some ⟨g, 0, none⟩, g, r.n, r.S, r.F, r.E, B⟩, rfl, rfl, rfl, rfl, rfl, rfl, .inr ⟨rfl, hrow, fun j hj => (hcop j hj).2.2.2.1⟩, fun _ => hg, hcop, hbel⟩

/-- a slice of points that came in -/
structure PIn where
  a : Option Addr
  n : Nat
  c : Nat
  b : Nat
  o : Nat
  T : Nat → Int
  N : Nat → Int
def PIn.In (p : PIn) (w : World) : Prop := (0 < p.n → p.a = some ⟨p.b, p.o, none⟩) ∧ (p.a = none → p.n = 0 ∧ p.c = 0) ∧ pts w p.b p.o p.n p.T p.N
theorem PIn.In.later {p : PIn} {w w' : World} (h : p.In w) (hb : Below w.heap.size w w') : p.In w' := ⟨h.1, h.2.1, fun j hj => ⟨cell_later hb (h.2.2 j hj).1, cell_later hb (h.2.2 j hj).2⟩⟩

/-- a slice of points of the call's own -/
structure POwn where
  a : Option Addr
  g : Nat
  n : Nat
  T : Nat → Int
  N : Nat → Int
def POwn.Own (p : POwn) (w : World) : Prop := (p.a = none ∧ p.n = 0) ∨ (p.a = some ⟨p.g, 0, none⟩ ∧ w.rowIs p.g 63 (p.n * 2) (copied p.T p.N p.n))

theorem points9_own (p : PIn) (w : World) (hn : p.n ≤ 65536) (h : p.In w) :
    Calls Try.prog 9 #[.slice p.a p.n p.c] w fun e w' => ∃ o : POwn, e = .returned (.slice o.a o.n o.n) ∧ o.n = p.n ∧ o.T = p.T ∧ o.N = p.N ∧ o.a.isNone = p.a.isNone ∧ o.Own w' ∧ (o.a ≠ none → w.heap.size ≤ o.g) ∧ Below w.heap.size w w' := by
  cases hnn : p.a.isNone with
  | true =>
    have ha : p.a = none := by cases hf : p.a with | none => rfl | some x => rw [hf] at hnn; simp at hnn
    obtain ⟨h1, h2⟩ := h.2.1 ha
    rw [ha, h1, h2]
    refine (points9_nil w).mono ?_
    rintro e w' ⟨rfl, rfl⟩
    exact ⟨⟨none, 0, 0, p.T, p.N⟩, rfl, rfl, rfl, rfl, rfl, .inl ⟨rfl, rfl⟩, fun h => absurd rfl h, Below.refl _ _⟩
  | false =>
    refine (points9 p.a p.b p.o p.n p.c p.T p.N w hn h.1 hnn h.2.2 (fun h0 => World.block_lt_of_cell? _ _ (h.2.2 0 h0).1)).mono ?_
    rintro e w' ⟨g, rfl, hg, hrow, hbel⟩
    exact ⟨⟨some ⟨g, 0, none⟩, g, p.n, p.T, p.N⟩, rfl, rfl, rfl, rfl, rfl, .inr ⟨rfl, hrow⟩, fun _ => hg, hbel⟩
end Go.Proofs.Qxb6605212a
