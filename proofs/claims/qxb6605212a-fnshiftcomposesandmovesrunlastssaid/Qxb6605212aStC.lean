/- zToState, walked. -/
import Derived.Test.Qxb6605212aStB
namespace Go.Proofs.Qxb6605212a
open Go.RowKit
attribute [local go_sem] run_store_flt

structure StIn where
  cur : Int
  last : Int
  dec : Bool
  U : PIn
  D : PIn
  C : PIn
  bef : Int
  idle : Int
  R : RIn
  bst : Int
  bur : Bool
  lost : Int
  isl : Bool
def StIn.val (s : StIn) : Value := .agg #[.int .i64 s.cur, .int .i64 s.last, .bool s.dec, .slice s.U.a s.U.n s.U.c, .slice s.D.a s.D.n s.D.c, .slice s.C.a s.C.n s.C.c, .int .i64 s.bef, .int .i64 s.idle, .slice s.R.a s.R.n s.R.c, .int .i64 s.bst, .bool s.bur, .int .i64 s.lost, .bool s.isl]
def StIn.In (s : StIn) (w : World) : Prop := s.U.In w ∧ s.D.In w ∧ s.C.In w ∧ s.R.In w
theorem StIn.In.later {s : StIn} {w w' : World} (h : s.In w) (hb : Below w.heap.size w w') : s.In w' := ⟨h.1.later hb, h.2.1.later hb, h.2.2.1.later hb, h.2.2.2.later hb⟩
/-- what zStateFits lets by -/
def StIn.Fits (s : StIn) : Prop := s.U.n ≤ 65536 ∧ s.D.n ≤ 65536 ∧ s.C.n ≤ 65536 ∧ s.R.n ≤ 65536 ∧ ∀ j, j < s.R.n → (s.R.B j).n ≤ 1048576

structure StOwn where
  cur : Int
  last : Int
  dec : Bool
  U : POwn
  D : POwn
  C : POwn
  bef : Int
  idle : Int
  R : ROwn
  bst : Int
  bur : Bool
  lost : Int
  isl : Bool
def StOwn.val (s : StOwn) : Value := .agg #[.int .i64 s.cur, .int .i64 s.last, .bool s.dec, .slice s.U.a s.U.n s.U.n, .slice s.D.a s.D.n s.D.n, .slice s.C.a s.C.n s.C.n, .int .i64 s.bef, .int .i64 s.idle, .slice s.R.a s.R.n s.R.n, .int .i64 s.bst, .bool s.bur, .int .i64 s.lost, .bool s.isl]
def StOwn.Own (s : StOwn) (w : World) : Prop := s.U.Own w ∧ s.D.Own w ∧ s.C.Own w ∧ s.R.Own w
/-- where its blocks lie: behind one another -/
def StOwn.Laid (s : StOwn) (lo hi : Nat) : Prop := ∃ m1 m2 m3, lo ≤ m1 ∧ m1 ≤ m2 ∧ m2 ≤ m3 ∧ m3 ≤ hi ∧ (s.U.a ≠ none → lo ≤ s.U.g ∧ s.U.g < m1) ∧ (s.D.a ≠ none → m1 ≤ s.D.g ∧ s.D.g < m2) ∧ (s.C.a ≠ none → m2 ≤ s.C.g ∧ s.C.g < m3) ∧
  (s.R.a ≠ none → m3 ≤ s.R.g ∧ s.R.g < hi) ∧ ∀ j, j < s.R.n → (s.R.B j).a ≠ none → s.R.g < (s.R.B j).g ∧ (s.R.B j).g < hi
/-- the same points -/
def samePts (o : POwn) (p : PIn) : Prop := o.n = p.n ∧ o.T = p.T ∧ o.N = p.N ∧ o.a.isNone = p.a.isNone
/-- the same runs -/
def sameRuns (o : ROwn) (r : RIn) : Prop := o.n = r.n ∧ o.S = r.S ∧ o.F = r.F ∧ o.E = r.E ∧ o.a.isNone = r.a.isNone ∧ ∀ j, j < r.n → (o.B j).n = (r.B j).n ∧ (o.B j).x = (r.B j).x ∧ (o.B j).a.isNone = (r.B j).a.isNone
/-- a copy -/
def StOwn.Copy (o : StOwn) (s : StIn) : Prop := o.cur = s.cur ∧ o.last = s.last ∧ o.dec = s.dec ∧ samePts o.U s.U ∧ samePts o.D s.D ∧ samePts o.C s.C ∧ o.bef = s.bef ∧ o.idle = s.idle ∧ sameRuns o.R s.R ∧ o.bst = s.bst ∧ o.bur = s.bur ∧ o.lost = s.lost ∧ o.isl = s.isl

theorem POwn.Own.of_block {f : POwn} {w w' : World} (h : f.Own w) (he : f.a ≠ none → w'.heap[f.g]? = w.heap[f.g]?) : f.Own w' := by
  rcases h with h | ⟨h1, h2⟩
  · exact .inl h
  · exact .inr ⟨h1, h2.of_block (he (by rw [h1]; simp))⟩
theorem POwn.Own.lt {f : POwn} {w : World} (h : f.Own w) (ha : f.a ≠ none) : f.g < w.heap.size := by
  rcases h with h | ⟨_, h2⟩
  · exact absurd h.1 ha
  · exact h2.lt
theorem ROwn.Own.lt {f : ROwn} {w : World} (h : f.Own w) (ha : f.a ≠ none) : f.g < w.heap.size := by
  rcases h with h | ⟨_, h2, _⟩
  · exact absurd h.1 ha
  · exact h2.lt
theorem ROwn.Own.B {f : ROwn} {w : World} (h : f.Own w) (j : Nat) (hj : j < f.n) : (f.B j).Own w := by
  rcases h with h | ⟨_, _, h2⟩
  · omega
  · exact h2 j hj
theorem ROwn.Own.of_block {f : ROwn} {w w' : World} (h : f.Own w) (he : f.a ≠ none → w'.heap[f.g]? = w.heap[f.g]?) (hB : ∀ j, j < f.n → (f.B j).a ≠ none → w'.heap[(f.B j).g]? = w.heap[(f.B j).g]?) : f.Own w' := by
  rcases h with h | ⟨h1, h2, h3⟩
  · exact .inl h
  · exact .inr ⟨h1, h2.of_block (he (by rw [h1]; simp)), fun j hj => (h3 j hj).of_block (hB j hj)⟩
theorem POwn.Own.below {f : POwn} {w w' : World} (h : f.Own w) (hb : Below w.heap.size w w') : f.Own w' := h.of_block (fun ha => hb.block _ (h.lt ha))
theorem ROwn.Own.below {f : ROwn} {w w' : World} (h : f.Own w) (hb : Below w.heap.size w w') : f.Own w' := h.of_block (fun ha => hb.block _ (h.lt ha)) (fun j hj ha => hb.block _ ((h.B j hj).lt ha))
theorem StOwn.Own.below {s : StOwn} {w w' : World} (h : s.Own w) (hb : Below w.heap.size w w') : s.Own w' := ⟨h.1.below hb, h.2.1.below hb, h.2.2.1.below hb, h.2.2.2.below hb⟩

def cells13 (w : World) (b : Nat) (v0 v1 v2 v3 v4 v5 v6 v7 v8 v9 v10 v11 v12 : Value) : Prop :=
  w.cell? ⟨b, 0, none⟩ = some v0 ∧ w.cell? ⟨b, 1, none⟩ = some v1 ∧ w.cell? ⟨b, 2, none⟩ = some v2 ∧ w.cell? ⟨b, 3, none⟩ = some v3 ∧ w.cell? ⟨b, 4, none⟩ = some v4 ∧ w.cell? ⟨b, 5, none⟩ = some v5 ∧ w.cell? ⟨b, 6, none⟩ = some v6 ∧
  w.cell? ⟨b, 7, none⟩ = some v7 ∧ w.cell? ⟨b, 8, none⟩ = some v8 ∧ w.cell? ⟨b, 9, none⟩ = some v9 ∧ w.cell? ⟨b, 10, none⟩ = some v10 ∧ w.cell? ⟨b, 11, none⟩ = some v11 ∧ w.cell? ⟨b, 12, none⟩ = some v12
theorem cells13.later {w w' : World} {b : Nat} {v0 v1 v2 v3 v4 v5 v6 v7 v8 v9 v10 v11 v12 : Value} (h : cells13 w b v0 v1 v2 v3 v4 v5 v6 v7 v8 v9 v10 v11 v12) (e : w'.heap[b]? = w.heap[b]?) : cells13 w' b v0 v1 v2 v3 v4 v5 v6 v7 v8 v9 v10 v11 v12 := by
  have hc : ∀ o, w'.cell? ⟨b, o, none⟩ = w.cell? ⟨b, o, none⟩ := fun o => World.cell?_of_block e
  unfold cells13 at *
  simp only [hc]
  exact h

theorem rowIs_new (w : World) (c : Array Value) (t : TypeId) : ∃ f, (w.alloc (.cells c t)).rowIs w.heap.size t c.size f :=
  ⟨fun i => c.getD i undef, World.rowIs_alloc w c t _ (by intro i hi; simp [hi])⟩

/-- thirteen stores -/
def set13 (w : World) (b : Nat) (v0 v1 v2 v3 v4 v5 v6 v7 v8 v9 v10 v11 v12 : Value) : World :=
  ((((((((((((w.setCell ⟨b, 0, none⟩ v0).setCell ⟨b, 1, none⟩ v1).setCell ⟨b, 2, none⟩ v2).setCell ⟨b, 3, none⟩ v3).setCell ⟨b, 4, none⟩ v4).setCell ⟨b, 5, none⟩ v5).setCell ⟨b, 6, none⟩ v6).setCell ⟨b, 7, none⟩ v7).setCell ⟨b, 8, none⟩ v8).setCell ⟨b, 9, none⟩ v9).setCell ⟨b, 10, none⟩ v10).setCell ⟨b, 11, none⟩ v11).setCell ⟨b, 12, none⟩ v12

theorem set13_spec (w : World) (b : Nat) (t : TypeId) (f : Nat → Value) (v0 v1 v2 v3 v4 v5 v6 v7 v8 v9 v10 v11 v12 : Value) (h : w.rowIs b t 13 f) :
    cells13 (set13 w b v0 v1 v2 v3 v4 v5 v6 v7 v8 v9 v10 v11 v12) b v0 v1 v2 v3 v4 v5 v6 v7 v8 v9 v10 v11 v12 ∧ (∀ k, k ≠ b → (set13 w b v0 v1 v2 v3 v4 v5 v6 v7 v8 v9 v10 v11 v12).heap[k]? = w.heap[k]?) ∧
    (set13 w b v0 v1 v2 v3 v4 v5 v6 v7 v8 v9 v10 v11 v12).heap.size = w.heap.size ∧ (∀ B, B ≤ b → Below B w (set13 w b v0 v1 v2 v3 v4 v5 v6 v7 v8 v9 v10 v11 v12)) ∧ ∃ g, (set13 w b v0 v1 v2 v3 v4 v5 v6 v7 v8 v9 v10 v11 v12).rowIs b t 13 g := by
  have hr := ((((((((((((h.set 0 v0).set 1 v1).set 2 v2).set 3 v3).set 4 v4).set 5 v5).set 6 v6).set 7 v7).set 8 v8).set 9 v9).set 10 v10).set 11 v11).set 12 v12
  refine ⟨?_, ?_, ?_, ?_, _, hr⟩
  · exact ⟨hr.cell (i := 0) (by omega), hr.cell (i := 1) (by omega), hr.cell (i := 2) (by omega), hr.cell (i := 3) (by omega), hr.cell (i := 4) (by omega), hr.cell (i := 5) (by omega), hr.cell (i := 6) (by omega), hr.cell (i := 7) (by omega), hr.cell (i := 8) (by omega), hr.cell (i := 9) (by omega), hr.cell (i := 10) (by omega), hr.cell (i := 11) (by omega), hr.cell (i := 12) (by omega)⟩
  · intro k hk
    unfold set13
    rw [heap_set _ _ _ _ _ hk, heap_set _ _ _ _ _ hk, heap_set _ _ _ _ _ hk, heap_set _ _ _ _ _ hk, heap_set _ _ _ _ _ hk, heap_set _ _ _ _ _ hk, heap_set _ _ _ _ _ hk, heap_set _ _ _ _ _ hk, heap_set _ _ _ _ _ hk, heap_set _ _ _ _ _ hk, heap_set _ _ _ _ _ hk, heap_set _ _ _ _ _ hk, heap_set _ _ _ _ _ hk]
  · simp [set13]
  · intro B hB
    exact (((((((((((((Below.refl B w).setCell (by exact hB) _).setCell (by exact hB) _).setCell (by exact hB) _).setCell (by exact hB) _).setCell (by exact hB) _).setCell (by exact hB) _).setCell (by exact hB) _).setCell (by exact hB) _).setCell (by exact hB) _).setCell (by exact hB) _).setCell (by exact hB) _).setCell (by exact hB) _).setCell (by exact hB) _

set_option maxHeartbeats 4000000 in
theorem state14 (s : StIn) (w : World) (hf : s.Fits) (h : s.In w) :
    Calls Try.prog 14 #[s.val] w fun e w' => ∃ o : StOwn, e = .returned o.val ∧ o.Copy s ∧ o.Own w' ∧ o.Laid w.heap.size w'.heap.size ∧ Below w.heap.size w w' := by
  obtain ⟨cur, last, dec, U, D, C, bef, idle, R, bst, bur, lost, isl⟩ := s
  have HF : Hid (U.n ≤ 65536 ∧ D.n ≤ 65536 ∧ C.n ≤ 65536 ∧ R.n ≤ 65536 ∧ ∀ j, j < R.n → (R.B j).n ≤ 1048576) := hf
  have HI : Hid (U.In w ∧ D.In w ∧ C.In w ∧ R.In w) := h
  clear hf h
  simp only [StIn.val]
  go_enter Try.func14, Try.ntmps14
  go_wp2
  obtain ⟨w0, hw0⟩ : ∃ w0 : World, w0 = (w.alloc (.cells #[.int .i64 cur, .int .i64 last, .bool dec, .slice U.a U.n U.c, .slice D.a D.n D.c, .slice C.a C.n C.c, .int .i64 bef, .int .i64 idle, .slice R.a R.n R.c, .int .i64 bst, .bool bur, .int .i64 lost, .bool isl] 32)).alloc (.cells #[.int .i64 0, .int .i64 0, .bool false, .slice none 0 0, .slice none 0 0, .slice none 0 0, .int .i64 0, .int .i64 0, .slice none 0 0, .int .i64 0, .bool false, .int .i64 0, .bool false] 37) := ⟨_, rfl⟩
  have hz0 : w.heap.size + 2 ≤ w0.heap.size := by rw [hw0]; simp
  have hb0 : Below w.heap.size w w0 := by rw [hw0]; exact ((Below.refl _ _).alloc (Nat.le_refl _) _).alloc (by simp) _
  have hc0 : cells13 w0 w.heap.size (.int .i64 cur) (.int .i64 last) (.bool dec) (.slice U.a U.n U.c) (.slice D.a D.n D.c) (.slice C.a C.n C.c) (.int .i64 bef) (.int .i64 idle) (.slice R.a R.n R.c) (.int .i64 bst) (.bool bur) (.int .i64 lost) (.bool isl) := by rw [hw0]; simp [cells13]
  have hr0 : cells13 w0 (w.heap.size + 1) (.int .i64 0) (.int .i64 0) (.bool false) (.slice none 0 0) (.slice none 0 0) (.slice none 0 0) (.int .i64 0) (.int .i64 0) (.slice none 0 0) (.int .i64 0) (.bool false) (.int .i64 0) (.bool false) := by rw [hw0]; simp [cells13]
  have hf0 : ∀ o, w0.frozen? ⟨w.heap.size + 1, o, none⟩ = false := by intro o; rw [hw0]; simp
  have hq0 : Hid (∃ f, w0.rowIs (w.heap.size + 1) 37 13 f) := by
    rw [hw0]
    have h := rowIs_new (w.alloc (.cells #[.int .i64 cur, .int .i64 last, .bool dec, .slice U.a U.n U.c, .slice D.a D.n D.c, .slice C.a C.n C.c, .int .i64 bef, .int .i64 idle, .slice R.a R.n R.c, .int .i64 bst, .bool bur, .int .i64 lost, .bool isl] 32)) #[.int .i64 0, .int .i64 0, .bool false, .slice none 0 0, .slice none 0 0, .slice none 0 0, .int .i64 0, .int .i64 0, .slice none 0 0, .int .i64 0, .bool false, .int .i64 0, .bool false] 37
    rw [World.size_alloc] at h
    exact h
  rw [← hw0]
  clear hw0
  have i0 : Hid (U.In w0 ∧ D.In w0 ∧ C.In w0 ∧ R.In w0) := ⟨HI.out.1.later hb0, HI.out.2.1.later hb0, HI.out.2.2.1.later hb0, HI.out.2.2.2.later hb0⟩
  obtain ⟨HC0, HR0, HF0, HB0⟩ : Hid (cells13 w0 w.heap.size (.int .i64 cur) (.int .i64 last) (.bool dec) (.slice U.a U.n U.c) (.slice D.a D.n D.c) (.slice C.a C.n C.c) (.int .i64 bef) (.int .i64 idle) (.slice R.a R.n R.c) (.int .i64 bst) (.bool bur) (.int .i64 lost) (.bool isl)) ∧ Hid (cells13 w0 (w.heap.size + 1) (.int .i64 0) (.int .i64 0) (.bool false) (.slice none 0 0) (.slice none 0 0) (.slice none 0 0) (.int .i64 0) (.int .i64 0) (.slice none 0 0) (.int .i64 0) (.bool false) (.int .i64 0) (.bool false)) ∧ Hid (∀ o, w0.frozen? ⟨w.heap.size + 1, o, none⟩ = false) ∧ Hid (Below w.heap.size w w0) := ⟨hc0, hr0, hf0, hb0⟩
  obtain ⟨e0, e1, e2, e3, e4, e5, e6, e7, e8, e9, e10, e11, e12⟩ := hc0
  clear hr0 hf0 hb0
  go_region_held3 (fun w' => w'.cell? ⟨w.heap.size, 0, none⟩ = some (.int .i64 cur) ∧ w'.cell? ⟨w.heap.size, 1, none⟩ = some (.int .i64 last) ∧ w'.cell? ⟨w.heap.size, 2, none⟩ = some (.bool dec) ∧ w'.cell? ⟨w.heap.size, 3, none⟩ = some (.slice U.a U.n U.c) ∧ w'.cell? ⟨w.heap.size, 4, none⟩ = some (.slice D.a D.n D.c) ∧ w'.cell? ⟨w.heap.size, 5, none⟩ = some (.slice C.a C.n C.c) ∧ w'.cell? ⟨w.heap.size, 6, none⟩ = some (.int .i64 bef) ∧ w'.cell? ⟨w.heap.size, 7, none⟩ = some (.int .i64 idle) ∧ w'.cell? ⟨w.heap.size, 8, none⟩ = some (.slice R.a R.n R.c) ∧ w'.cell? ⟨w.heap.size, 9, none⟩ = some (.int .i64 bst) ∧ w'.cell? ⟨w.heap.size, 10, none⟩ = some (.bool bur) ∧ w'.cell? ⟨w.heap.size, 11, none⟩ = some (.int .i64 lost) ∧ w'.cell? ⟨w.heap.size, 12, none⟩ = some (.bool isl)) (first | go_keep | (exact hc4.out) | (exact hc3.out) | (exact hc2.out) | (exact hc1.out)) ((first
    | (go_at_call 9; go_at_call_of 9 (U.a); go_must (refine (points9_own U _ HF.out.1 (by exact i0.out.1)).mono ?_); go_must (rintro e w1 ⟨u, rfl, hh1⟩); go_must (have HU : Hid (_ ∧ _ ∧ _ ∧ _ ∧ _ ∧ _ ∧ _) := hh1); clear hh1; go_must (have hb1 : Hid (Below w0.heap.size w0 w1) := ((Below.refl w0.heap.size w0).drew).trans HU.out.2.2.2.2.2.2); have hc1 : Hid (cells13 w1 w.heap.size (.int .i64 cur) (.int .i64 last) (.bool dec) (.slice U.a U.n U.c) (.slice D.a D.n D.c) (.slice C.a C.n C.c) (.int .i64 bef) (.int .i64 idle) (.slice R.a R.n R.c) (.int .i64 bst) (.bool bur) (.int .i64 lost) (.bool isl)) := HC0.out.later (hb1.out.block _ (by omega)))
    | (go_at_call_of 9 (D.a); refine (points9_own D _ HF.out.2.1 (by exact i0.out.2.1.later hb1.out)).mono ?_; rintro e w2 ⟨d, rfl, hh2⟩; have HD : Hid (_ ∧ _ ∧ _ ∧ _ ∧ _ ∧ _ ∧ _) := hh2; clear hh2; have hb2 : Hid (Below w0.heap.size w0 w2) := hb1.out.trans (HD.out.2.2.2.2.2.2.mono hb1.out.size); have hc2 : Hid (cells13 w2 w.heap.size (.int .i64 cur) (.int .i64 last) (.bool dec) (.slice U.a U.n U.c) (.slice D.a D.n D.c) (.slice C.a C.n C.c) (.int .i64 bef) (.int .i64 idle) (.slice R.a R.n R.c) (.int .i64 bst) (.bool bur) (.int .i64 lost) (.bool isl)) := HC0.out.later (hb2.out.block _ (by omega)))
    | (go_at_call_of 9 (C.a); refine (points9_own C _ HF.out.2.2.1 (by exact i0.out.2.2.1.later hb2.out)).mono ?_; rintro e w3 ⟨c, rfl, hh3⟩; have HC : Hid (_ ∧ _ ∧ _ ∧ _ ∧ _ ∧ _ ∧ _) := hh3; clear hh3; have hb3 : Hid (Below w0.heap.size w0 w3) := hb2.out.trans (HC.out.2.2.2.2.2.2.mono hb2.out.size); have hc3 : Hid (cells13 w3 w.heap.size (.int .i64 cur) (.int .i64 last) (.bool dec) (.slice U.a U.n U.c) (.slice D.a D.n D.c) (.slice C.a C.n C.c) (.int .i64 bef) (.int .i64 idle) (.slice R.a R.n R.c) (.int .i64 bst) (.bool bur) (.int .i64 lost) (.bool isl)) := HC0.out.later (hb3.out.block _ (by omega)))
    | (go_at_call_of 26 (R.a); refine (runs26_own R _ HF.out.2.2.2.1 HF.out.2.2.2.2 (by exact i0.out.2.2.2.later hb3.out)).mono ?_; rintro e w4 ⟨r, rfl, hh4⟩; have HRr : Hid (_ ∧ _ ∧ _ ∧ _ ∧ _ ∧ _ ∧ _ ∧ _ ∧ _) := hh4; clear hh4; have hb4 : Hid (Below w0.heap.size w0 w4) := hb3.out.trans (HRr.out.2.2.2.2.2.2.2.2.mono hb3.out.size); have hc4 : Hid (cells13 w4 w.heap.size (.int .i64 cur) (.int .i64 last) (.bool dec) (.slice U.a U.n U.c) (.slice D.a D.n D.c) (.slice C.a C.n C.c) (.int .i64 bef) (.int .i64 idle) (.slice R.a R.n R.c) (.int .i64 bst) (.bool bur) (.int .i64 lost) (.bool isl)) := HC0.out.later (hb4.out.block _ (by omega)); have hr4 : cells13 w4 (w.heap.size + 1) (.int .i64 0) (.int .i64 0) (.bool false) (.slice none 0 0) (.slice none 0 0) (.slice none 0 0) (.int .i64 0) (.int .i64 0) (.slice none 0 0) (.int .i64 0) (.bool false) (.int .i64 0) (.bool false) := HR0.out.later (hb4.out.block _ (by omega)); obtain ⟨z0, z1, z2, z3, z4, z5, z6, z7, z8, z9, z10, z11, z12⟩ := hr4; have hf4 : ∀ o, w4.frozen? ⟨w.heap.size + 1, o, none⟩ = false := fun o => (hb4.out.frozen (p := ⟨w.heap.size + 1, o, none⟩) (by show w.heap.size + 1 < w0.heap.size; omega)).trans (HF0.out o))))
  clear hc1 hc2 hc3 hc4 z0 z1 z2 z3 z4 z5 z6 z7 z8 z9 z10 z11 z12 hf4 e0 e1 e2 e3 e4 e5 e6 e7 e8 e9 e10 e11 e12
  go_wp2
  obtain ⟨fq, hq⟩ := hq0.out
  have hq4 : w4.rowIs (w.heap.size + 1) 37 13 fq := hq.of_block (hb4.out.block _ (by omega))
  have hspec := set13_spec w4 (w.heap.size + 1) 37 fq (.int .i64 cur) (.int .i64 last) (.bool dec) (.slice u.a u.n u.n) (.slice d.a d.n d.n) (.slice c.a c.n c.n) (.int .i64 bef) (.int .i64 idle) (.slice r.a r.n r.n) (.int .i64 bst) (.bool bur) (.int .i64 lost) (.bool isl) hq4
  change bodyPost Try.prog Try.f14 _ Exit.ret _ (set13 w4 (w.heap.size + 1) (.int .i64 cur) (.int .i64 last) (.bool dec) (.slice u.a u.n u.n) (.slice d.a d.n d.n) (.slice c.a c.n c.n) (.int .i64 bef) (.int .i64 idle) (.slice r.a r.n r.n) (.int .i64 bst) (.bool bur) (.int .i64 lost) (.bool isl))
  generalize set13 w4 (w.heap.size + 1) (.int .i64 cur) (.int .i64 last) (.bool dec) (.slice u.a u.n u.n) (.slice d.a d.n d.n) (.slice c.a c.n c.n) (.int .i64 bef) (.int .i64 idle) (.slice r.a r.n r.n) (.int .i64 bst) (.bool bur) (.int .i64 lost) (.bool isl) = w5 at hspec ⊢
  obtain ⟨⟨c0, c1, c2, c3, c4, c5, c6, c7, c8, c9, c10, c11, c12⟩, hoth, hsz, hbel, _⟩ := hspec
  refine bodyPost_ret (v := StOwn.val ⟨cur, last, dec, u, d, c, bef, idle, r, bst, bur, lost, isl⟩) (by simp [results, Try.results14, go_sem, StOwn.val, c0, c1, c2, c3, c4, c5, c6, c7, c8, c9, c10, c11, c12]) rfl ⟨_, rfl, ?_, ?_, ?_, ?_⟩
  · obtain ⟨u1, u2, u3, u4, u5, u6, u7⟩ := HU.out
    obtain ⟨d1, d2, d3, d4, d5, d6, d7⟩ := HD.out
    obtain ⟨k1, k2, k3, k4, k5, k6, k7⟩ := HC.out
    obtain ⟨r1, r2, r3, r4, r5, r6, r7, r8, r9⟩ := HRr.out
    exact ⟨rfl, rfl, rfl, ⟨u1, u2, u3, u4⟩, ⟨d1, d2, d3, d4⟩, ⟨k1, k2, k3, k4⟩, rfl, rfl, ⟨r1, r2, r3, r4, r5, fun j hj => ⟨(r8 j hj).1, (r8 j hj).2.1, (r8 j hj).2.2.1⟩⟩, rfl, rfl, rfl, rfl⟩
  · obtain ⟨_, _, _, _, u5, u6, u7⟩ := HU.out
    obtain ⟨_, _, _, _, d5, d6, d7⟩ := HD.out
    obtain ⟨_, _, _, _, k5, k6, k7⟩ := HC.out
    obtain ⟨_, _, _, _, _, r6, r7, r8, r9⟩ := HRr.out
    have z1 := hb1.out.size
    have z2 := d7.size
    have z3 := k7.size
    have U4 := ((u5.below d7).below k7).below r9
    have D4 := (d5.below k7).below r9
    have C4 := k5.below r9
    refine ⟨U4.of_block (fun ha => hoth _ ?_), D4.of_block (fun ha => hoth _ ?_), C4.of_block (fun ha => hoth _ ?_), r6.of_block (fun ha => hoth _ ?_) (fun j hj ha => hoth _ ?_)⟩
    · have := u6 ha
      have e : w0.drew.heap.size = w0.heap.size := rfl
      show u.g ≠ _
      omega
    · have := d6 ha
      show d.g ≠ _
      omega
    · have := k6 ha
      show c.g ≠ _
      omega
    · have := r7 ha
      show r.g ≠ _
      omega
    · have hn : r.n = R.n := HRr.out.1
      have hj' : j < r.n := hj
      have hr : r.a ≠ none := by
        intro hn0
        rcases r6 with h | h
        · omega
        · rw [h.1] at hn0; cases hn0
      have h1 := r7 hr
      have h2 := (r8 j (by omega)).2.2.2.2 ha
      show (r.B j).g ≠ _
      omega
  · obtain ⟨_, _, _, _, u5, u6, u7⟩ := HU.out
    obtain ⟨_, _, _, _, d5, d6, d7⟩ := HD.out
    obtain ⟨_, _, _, _, k5, k6, k7⟩ := HC.out
    obtain ⟨hn, _, _, _, _, r6, r7, r8, r9⟩ := HRr.out
    have z1 := hb1.out.size
    have z2 := d7.size
    have z3 := k7.size
    have z4 := r9.size
    rw [hsz]
    refine ⟨w1.heap.size, w2.heap.size, w3.heap.size, by omega, z2, z3, z4, fun ha => ⟨?_, u5.lt ha⟩, fun ha => ⟨d6 ha, d5.lt ha⟩, fun ha => ⟨k6 ha, k5.lt ha⟩, fun ha => ⟨r7 ha, r6.lt ha⟩, fun j hj ha => ⟨(r8 j (by have hj' : j < r.n := hj; omega)).2.2.2.2 ha, (r6.B j hj).lt ha⟩⟩
    have := u6 ha
    have e : w0.drew.heap.size = w0.heap.size := rfl
    show w.heap.size ≤ u.g
    omega
  · exact HB0.out.trans ((hb4.out.mono (by omega)).trans (hbel _ (by omega)))
end Go.Proofs.Qxb6605212a
