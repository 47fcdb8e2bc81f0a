/- THE STATE's PARTS IN MEMORY: slices of floats, of points, of runs, as they came in and as the copy lays them; the copies walked. -/
import Derived.Test.Qxb6605212aPts
namespace Go.Proofs.Qxb6605212a
open Go.RowKit

/-- a store of a float: as of a number (the kit's laws bear integers, bools, slices ..) -/
theorem run_store_flt {P : Program} {w : World} {a : Addr} {m : Mode} (k : FloatKind) (b : Nat) : (store a (.float k b) m).run P w = stored P w a (.float k b) m := run_store P w a _ m rfl
attribute [local go_sem] run_store_flt

/-- a slice of floats that came in -/
structure FIn where
  a : Option Addr
  n : Nat
  c : Nat
  b : Nat
  o : Nat
  x : Nat → Nat
def FIn.In (f : FIn) (w : World) : Prop :=
  (0 < f.n → f.a = some ⟨f.b, f.o, none⟩) ∧ (f.a = none → f.n = 0 ∧ f.c = 0) ∧ ∀ j, j < f.n → w.cell? ⟨f.b, f.o + j, none⟩ = some (.float .f64 (f.x j))
theorem FIn.In.later {f : FIn} {w w' : World} (h : f.In w) (hb : Below w.heap.size w w') : f.In w' := ⟨h.1, h.2.1, fun j hj => cell_later hb (h.2.2 j hj)⟩

/-- a slice of floats of the call's own -/
structure FOwn where
  a : Option Addr
  g : Nat
  n : Nat
  x : Nat → Nat
def FOwn.Own (f : FOwn) (w : World) : Prop :=
  (f.a = none ∧ f.n = 0) ∨ (f.a = some ⟨f.g, 0, none⟩ ∧ w.rowIs f.g 22 f.n (fun i => .float .f64 (f.x i)))

theorem info22 : (Try.prog.info? 22).map (fun i => (i.zero, i.size, i.bytes)) = some (some (.float .f64 0), 1, 8) := by kernel_rfl

set_option maxHeartbeats 400000 in
theorem floats33_nil (w : World) :
    Calls Try.prog 33 #[.slice none 0 0] w fun e w' => e = .returned (.slice none 0 0) ∧ w' = w := by
  have q := fun w a n c => Lib.run_eql_slice_nil (P := Try.prog) w 41 22 a n c 0 0 Try.underlying41
  go_enter Try.func33, Try.ntmps33
  go_wp2
  go_ret
  exact ⟨rfl, rfl⟩

set_option maxHeartbeats 1000000 in
theorem floats33 (f : FIn) (w : World) (hn : f.n ≤ 1048576) (hnn : f.a.isNone = false) (h : f.In w) :
    Calls Try.prog 33 #[.slice f.a f.n f.c] w fun e w' => ∃ g, e = .returned (.slice (some ⟨g, 0, none⟩) f.n f.n) ∧ w.heap.size ≤ g ∧ w'.rowIs g 22 f.n (fun i => .float .f64 (f.x i)) ∧ Below w.heap.size w w' := by
  obtain ⟨a, n, c, b, o, x⟩ := f
  simp only at *
  have q := fun w a n c => Lib.run_eql_slice_nil (P := Try.prog) w 41 22 a n c 0 0 Try.underlying41
  have hmk := fun w => run_make_many (P := Try.prog) 41 22 _ 1 8 Try.underlying41 info22 n (by omega) (by omega) w
  have HF : Hid (FIn.In ⟨a, n, c, b, o, x⟩ w) := h
  clear h
  go_enter Try.func33, Try.ntmps33
  go_wp2
  go_loopw [4] (fun i wr => ∃ k : Nat, k ≤ n ∧ i = .int .i64 k ∧ wr.rowIs w.heap.size 22 n (fun i => .float .f64 (if i < k then x i else 0)) ∧ Below w.heap.size w wr) (fun i _ => n - (intOf i).toNat)
  case atStart =>
    refine ⟨0, Nat.zero_le _, rfl, ?_, (Below.refl _ _).alloc (Nat.le_refl _) _⟩
    refine (World.rowIs_made w (.float .f64 0) n 22).congr ?_
    intro i _
    rw [if_neg (Nat.not_lt_zero _)]
  case round =>
    obtain ⟨k, hk, rfl, hrow, hbel⟩ := hrel
    by_cases hlt : k < n
    · obtain rfl : a = some ⟨b, o, none⟩ := HF.out.1 (by show 0 < n; omega)
      have r1 : wr.cell? ⟨b, o + k, none⟩ = some (.float .f64 (x k)) := cell_later hbel (HF.out.2.2 k hlt)
      have s1 := hrow.cell (i := k) hlt
      have f1 := hrow.frozen k
      have hstep : (wr.setCell ⟨w.heap.size, k, none⟩ (.float .f64 (x k))).rowIs w.heap.size 22 n (fun i => .float .f64 (if i < k + 1 then x i else 0)) := by
        refine (hrow.set k (.float .f64 (x k))).congr ?_
        intro i _
        by_cases h1 : i = k
        · subst h1; simp
        · by_cases h2 : i < k
          · rw [if_neg h1, if_pos h2, if_pos (show i < k + 1 by omega)]
          · rw [if_neg h1, if_neg h2, if_neg (show ¬ i < k + 1 by omega)]
      have HST : Hid ((wr.setCell ⟨w.heap.size, k, none⟩ (.float .f64 (x k))).rowIs w.heap.size 22 n (fun i => .float .f64 (if i < k + 1 then x i else 0))) := hstep
      clear hstep
      go_wp2
      go_roundw
      case rel => exact ⟨k + 1, by omega, by go_num, HST.out, hbel.setCell (by simp) _⟩
      case measure => simp [intOf]; omega
    · obtain rfl : k = n := by omega
      have hfin := hrow.congr (g := fun i => .float .f64 (x i)) (by intro i hi; show Value.float .f64 (if i < k then x i else 0) = _; rw [if_pos hi])
      clear hrow
      go_wp2
      go_ret
      exact ⟨_, rfl, Nat.le_refl _, hfin, hbel⟩
/-- the copy of a slice of floats, nil or not -/
theorem floats33_own (f : FIn) (w : World) (hn : f.n ≤ 1048576) (h : f.In w) :
    Calls Try.prog 33 #[.slice f.a f.n f.c] w fun e w' => ∃ o : FOwn, e = .returned (.slice o.a o.n o.n) ∧ o.n = f.n ∧ o.x = f.x ∧ o.a.isNone = f.a.isNone ∧ o.Own w' ∧ (o.a ≠ none → w.heap.size ≤ o.g) ∧ Below w.heap.size w w' := by
  cases hnn : f.a.isNone with
  | true =>
    have ha : f.a = none := by cases hf : f.a with | none => rfl | some x => rw [hf] at hnn; simp at hnn
    obtain ⟨h1, h2⟩ := h.2.1 ha
    rw [ha, h1, h2]
    refine (floats33_nil w).mono ?_
    rintro e w' ⟨rfl, rfl⟩
    exact ⟨⟨none, 0, 0, f.x⟩, rfl, rfl, rfl, rfl, .inl ⟨rfl, rfl⟩, fun h => absurd rfl h, Below.refl _ _⟩
  | false =>
    refine (floats33 f w hn hnn h).mono ?_
    rintro e w' ⟨g, rfl, hg, hrow, hbel⟩
    exact ⟨⟨some ⟨g, 0, none⟩, g, f.n, f.x⟩, rfl, rfl, rfl, rfl, .inr ⟨rfl, hrow⟩, fun _ => hg, hbel⟩

/-- a slice of runs that came in -/
structure RIn where
  a : Option Addr
  n : Nat
  c : Nat
  b : Nat
  o : Nat
  S : Nat → Int
  F : Nat → Int
  E : Nat → Int
  B : Nat → FIn
def RIn.In (r : RIn) (w : World) : Prop :=
  (0 < r.n → r.a = some ⟨r.b, r.o, none⟩) ∧ (r.a = none → r.n = 0 ∧ r.c = 0) ∧ ∀ j, j < r.n → w.cell? ⟨r.b, r.o + j * 4, none⟩ = some (.int .i64 (r.S j)) ∧ w.cell? ⟨r.b, r.o + j * 4 + 1, none⟩ = some (.int .i64 (r.F j)) ∧
    w.cell? ⟨r.b, r.o + j * 4 + 2, none⟩ = some (.int .i64 (r.E j)) ∧ w.cell? ⟨r.b, r.o + j * 4 + 3, none⟩ = some (.slice (r.B j).a (r.B j).n (r.B j).c) ∧ (r.B j).In w
theorem RIn.In.later {r : RIn} {w w' : World} (h : r.In w) (hb : Below w.heap.size w w') : r.In w' :=
  ⟨h.1, h.2.1, fun j hj => by
    obtain ⟨h0, h1, h2, h3, h4⟩ := h.2.2 j hj
    exact ⟨cell_later hb h0, cell_later hb h1, cell_later hb h2, cell_later hb h3, h4.later hb⟩⟩

/-- a slice of runs of the call's own -/
structure ROwn where
  a : Option Addr
  g : Nat
  n : Nat
  S : Nat → Int
  F : Nat → Int
  E : Nat → Int
  B : Nat → FOwn
/-- cell i of the row -/
def runCell (S F E : Nat → Int) (B : Nat → FOwn) (k i : Nat) : Value :=
  if i / 4 < k then
    (if i % 4 = 0 then .int .i64 (S (i / 4)) else if i % 4 = 1 then .int .i64 (F (i / 4)) else if i % 4 = 2 then .int .i64 (E (i / 4)) else .slice (B (i / 4)).a (B (i / 4)).n (B (i / 4)).n)
  else (if i % 4 = 3 then .slice none 0 0 else .int .i64 0)
def ROwn.Own (r : ROwn) (w : World) : Prop :=
  (r.a = none ∧ r.n = 0) ∨ (r.a = some ⟨r.g, 0, none⟩ ∧ w.rowIs r.g 43 (r.n * 4) (runCell r.S r.F r.E r.B r.n) ∧ ∀ j, j < r.n → (r.B j).Own w)

theorem info43 : (Try.prog.info? 43).map (fun i => (i.zero, i.size, i.bytes)) = some (some (.agg #[.int .i64 0, .int .i64 0, .int .i64 0, .slice none 0 0]), 4, 48) := by kernel_rfl

set_option maxHeartbeats 400000 in
theorem runs26_nil (w : World) :
    Calls Try.prog 26 #[.slice none 0 0] w fun e w' => e = .returned (.slice none 0 0) ∧ w' = w := by
  have q := fun w a n c => Lib.run_eql_slice_nil (P := Try.prog) w 30 68 a n c 0 0 Try.underlying30
  go_enter Try.func26, Try.ntmps26
  go_wp2
  go_ret
  exact ⟨rfl, rfl⟩

theorem FOwn.Own.of_block {f : FOwn} {w w' : World} (h : f.Own w) (he : f.a ≠ none → w'.heap[f.g]? = w.heap[f.g]?) : f.Own w' := by
  rcases h with h | ⟨h1, h2⟩
  · exact .inl h
  · exact .inr ⟨h1, h2.of_block (he (by rw [h1]; simp))⟩

theorem FOwn.Own.lt {f : FOwn} {w : World} (h : f.Own w) (ha : f.a ≠ none) : f.g < w.heap.size := by
  rcases h with h | ⟨_, h2⟩
  · exact absurd h.1 ha
  · exact h2.lt

theorem runCell_congr (S F E : Nat → Int) (B B' : Nat → FOwn) (k i : Nat) (h : ∀ j, j < k → B j = B' j) : runCell S F E B k i = runCell S F E B' k i := by
  unfold runCell
  by_cases h1 : i / 4 < k
  · rw [if_pos h1, if_pos h1, h _ h1]
  · rw [if_neg h1, if_neg h1]

/-- one run more is laid -/
theorem runCell_step (S F E : Nat → Int) (B : Nat → FOwn) (w : World) (g m k : Nat) (h : w.rowIs g 43 m (runCell S F E B k)) :
    ((((w.setCell ⟨g, k * 4, none⟩ (.int .i64 (S k))).setCell ⟨g, k * 4 + 1, none⟩ (.int .i64 (F k))).setCell ⟨g, k * 4 + 2, none⟩ (.int .i64 (E k))).setCell ⟨g, k * 4 + 3, none⟩ (.slice (B k).a (B k).n (B k).n)).rowIs g 43 m (runCell S F E B (k + 1)) := by
  refine ((((h.set (k * 4) _).set (k * 4 + 1) _).set (k * 4 + 2) _).set (k * 4 + 3) _).congr ?_
  intro i _
  by_cases h4 : i / 4 = k
  · have hk : i / 4 < k + 1 := by omega
    have hr : i = k * 4 ∨ i = k * 4 + 1 ∨ i = k * 4 + 2 ∨ i = k * 4 + 3 := by omega
    unfold runCell
    rw [if_pos hk, h4]
    rcases hr with rfl | rfl | rfl | rfl
    · rw [if_neg (by omega), if_neg (by omega), if_neg (by omega), if_pos rfl, if_pos (by omega)]
    · rw [if_neg (by omega), if_neg (by omega), if_pos rfl, if_neg (by omega), if_pos (by omega)]
    · rw [if_neg (by omega), if_pos rfl, if_neg (by omega), if_neg (by omega), if_pos (by omega)]
    · rw [if_pos rfl, if_neg (by omega), if_neg (by omega), if_neg (by omega)]
  · rw [if_neg (by omega), if_neg (by omega), if_neg (by omega), if_neg (by omega)]
    unfold runCell
    by_cases h5 : i / 4 < k
    · rw [if_pos h5, if_pos (show i / 4 < k + 1 by omega)]
    · rw [if_neg h5, if_neg (show ¬ i / 4 < k + 1 by omega)]
end Go.Proofs.Qxb6605212a
