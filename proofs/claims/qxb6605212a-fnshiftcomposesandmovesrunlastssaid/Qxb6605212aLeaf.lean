import Derived.Test.Qxb6605212aProg
import Derived.WalkKit
import Derived.WalkSpells
import Derived.WalkLawsBesides
import Derived.Deep.QuietTactic
import Derived.BigQuiet
import Derived.Deep.DeepCutAuto
namespace Go.Proofs.Qxb6605212a
open Go.RowKit

/-- the seconds from a forward to b, as a float64's bits -/
def since (a b : Int) : Nat := floatOfInt .f64 (IntKind.u64.wrap (IntKind.u64.wrap b - IntKind.u64.wrap a))

/-- 60.0 as bits -/
def sixty : Nat := 4633641066610819072

set_option maxHeartbeats 400000 in
theorem zSince_any (a b : Int) (w : World) :
    Calls Try.prog 24 #[.int .i64 a, .int .i64 b] w fun e w' => e = .returned (.float .f64 (since a b)) ∧ w' = w := by
  go_enter Try.func24, Try.ntmps24
  go_wp2
  go_ret
  exact ⟨rfl, rfl⟩

set_option maxHeartbeats 400000 in
theorem elapsed_any (a b : Int) (w : World) :
    Calls Try.prog 32 #[.int .i64 a, .int .i64 b] w fun e w' => e = .returned (.float .f64 (since a b)) ∧ w' = w := by
  go_enter Try.func32, Try.ntmps32
  go_wp2
  go_ret
  exact ⟨rfl, rfl⟩

/-- Go's max(s, 60) where neither is a NaN -/
def gmax (s : Nat) : Nat :=
  match Ieee.double.order s sixty with
  | some .gt => s
  | some .eq => if (Ieee.double.read s).neg then sixty else s
  | _ => sixty

def gapIf (s : Nat) : Nat := if (Ieee.double.order s sixty == some .gt) = true then s else sixty

theorem run_max_gap (ts : Array TypeId) (t : TypeId) (s : Nat) (h : FloatKind.f64.format.order s sixty ≠ none) (w : World) :
    (Builtin.max_ ts t #[.float .f64 s, .float .f64 4633641066610819072]).run Try.prog w = .ok (.float .f64 (gmax s)) w := by
  have h' : Ieee.double.order s sixty ≠ none := h
  unfold gmax
  simp only [Builtin.max_, Builtin.max2, List.foldlM, FloatKind.format]
  change Sem.run Try.prog (bind (match Ieee.double.order s sixty with
    | none => _ | some .lt => _ | some .gt => _ | some .eq => _) _) w = _
  cases hc : Ieee.double.order s sixty with
  | none => exact absurd hc h'
  | some o => cases o <;> simp [FloatKind.decode, FloatKind.format, sixty] <;> rfl

set_option maxHeartbeats 400000 in
theorem zGap_any (u d s : Nat) (h : Ieee.double.add u d = some s) (w : World) :
    Calls Try.prog 23 #[.float .f64 u, .float .f64 d] w fun e w' => e = .returned (.float .f64 (gapIf s)) ∧ w' = w := by
  have ha := fun w => run_float_arith (P := Try.prog) w .add 22 .f64 u d s h
  by_cases hc : (Ieee.double.order s sixty == some .gt) = true
  · have hc' : (FloatKind.f64.format.order s 4633641066610819072 == some .gt) = true := hc
    have e : gapIf s = s := if_pos hc
    rw [e]; clear hc e
    go_enter Try.func23, Try.ntmps23
    go_wp2
    go_ret
    exact ⟨rfl, rfl⟩
  · have hc' : (FloatKind.f64.format.order s 4633641066610819072 == some .gt) = false := Bool.eq_false_iff.2 hc
    have e : gapIf s = 4633641066610819072 := if_neg hc
    rw [e]; clear hc e
    go_enter Try.func23, Try.ntmps23
    go_wp2
    go_ret
    exact ⟨rfl, rfl⟩

/-- the five cells of a reversals -/
def rsAt (w : World) (b : Nat) (c f t : Int) (ris rea : Bool) : Prop :=
  w.cell? ⟨b, 0, none⟩ = some (.int .i64 c) ∧ w.cell? ⟨b, 1, none⟩ = some (.int .i64 f) ∧ w.cell? ⟨b, 2, none⟩ = some (.int .i64 t) ∧
  w.cell? ⟨b, 3, none⟩ = some (.bool ris) ∧ w.cell? ⟨b, 4, none⟩ = some (.bool rea) ∧
  w.frozen? ⟨b, 0, none⟩ = false ∧ w.frozen? ⟨b, 1, none⟩ = false ∧ w.frozen? ⟨b, 2, none⟩ = false ∧ w.frozen? ⟨b, 3, none⟩ = false ∧ w.frozen? ⟨b, 4, none⟩ = false

/-- the policy that the shim lays: all zero but the two windows -/
def pol (u d : Nat) : Value := .agg #[.int .i64 0, .float .f64 0, .float .f64 0, .float .f64 0, .float .f64 0, .float .f64 0, .float .f64 u, .float .f64 d, .float .f64 0, .slice none 0 0, .slice none 0 0, .int .i64 0, .int .i64 0, .float .f64 0, .float .f64 0, .int .i64 0, .int .i64 0, .float .f64 0, .float .f64 0, .float .f64 0, .int .i64 0, .int .i64 0, .int .i64 0]

set_option maxHeartbeats 400000 in
theorem add_same (b : Nat) (c f t0 : Int) (ris rea : Bool) (t x : Int) (u d : Nat) (w : World) (h : rsAt w b c f t0 ris rea) :
    Calls Try.prog 29 #[.pointer (some ⟨b, 0, none⟩), .int .i64 t, .int .i64 x, .int .i64 x, pol u d] w fun e w' => e = .returned (.tuple #[]) ∧ rsAt w' b c f t0 ris false ∧ Below b w w' := by
  obtain ⟨h0, h1, h2, h3, h4, f0, f1, f2, f3, f4⟩ := h
  have hb : b < w.heap.size := World.block_lt_of_cell? _ _ h0
  unfold pol
  go_enter Try.func29, Try.ntmps29
  go_wp2
  refine bodyPost_ret (results_none rfl _ _ _) rfl ?_
  refine ⟨rfl, ?_, ?_⟩
  · simp only [rsAt]
    go_simp
  · repeat (first | (with_reducible refine Below.alloc ?_ (by simp; omega) _) | (with_reducible refine Below.setCell ?_ (by simp) _) | (with_reducible exact Below.refl _ _))

set_option maxHeartbeats 400000 in
theorem add_on (b : Nat) (c f t0 : Int) (ris rea : Bool) (t x y : Int) (u d s : Nat) (w : World) (h : rsAt w b c f t0 ris rea)
   (hs : Ieee.double.add u d = some s) (hs' : FloatKind.f64.format.order s sixty ≠ none) (hxy : (x == y) = false)
   (hc : (c == 0) = false) (hr : (decide (x < y) == ris) = false) (hg : (FloatKind.f64.format.order (since t0 t) (gmax s) == some .gt || FloatKind.f64.format.order (since t0 t) (gmax s) == some .eq) = false) (hc0 : 0 ≤ c) (hc1 : c ≤ 65536) :
    Calls Try.prog 29 #[.pointer (some ⟨b, 0, none⟩), .int .i64 t, .int .i64 x, .int .i64 y, pol u d] w fun e w' => e = .returned (.tuple #[]) ∧ rsAt w' b (c + 1) f t (decide (x < y)) (c + 1 == 6) ∧ Below b w w' := by
  obtain ⟨h0, h1, h2, h3, h4, f0, f1, f2, f3, f4⟩ := h
  have hb : b < w.heap.size := World.block_lt_of_cell? _ _ h0
  have ha := fun w => run_float_arith (P := Try.prog) w .add 22 .f64 u d s hs
  have hm := fun ts t w => run_max_gap ts t s hs' w
  clear hs hs'
  unfold pol
  go_enter Try.func29, Try.ntmps29
  go_wp2_with (go_at_call 32; refine (elapsed_any _ _ _).mono ?_; rintro e w' ⟨rfl, rfl⟩)
  go_end0
  refine ⟨rfl, ?_, ?_⟩
  · simp only [rsAt]
    go_simp
  · repeat (first | (with_reducible refine Below.alloc ?_ (by simp; omega) _) | (with_reducible refine Below.setCell ?_ (by simp) _) | (with_reducible exact Below.refl _ _))

set_option maxHeartbeats 400000 in
theorem add_new1 (b : Nat) (c f t0 : Int) (ris rea : Bool) (t x y : Int) (u d s : Nat) (w : World) (h : rsAt w b c f t0 ris rea)
   (hs : Ieee.double.add u d = some s) (hs' : FloatKind.f64.format.order s sixty ≠ none) (hxy : (x == y) = false)
   (hc : (c == 0) = true) :
    Calls Try.prog 29 #[.pointer (some ⟨b, 0, none⟩), .int .i64 t, .int .i64 x, .int .i64 y, pol u d] w fun e w' => e = .returned (.tuple #[]) ∧ rsAt w' b 1 t t (decide (x < y)) false ∧ Below b w w' := by
  obtain ⟨h0, h1, h2, h3, h4, f0, f1, f2, f3, f4⟩ := h
  have hb : b < w.heap.size := World.block_lt_of_cell? _ _ h0
  have ha := fun w => run_float_arith (P := Try.prog) w .add 22 .f64 u d s hs
  have hm := fun ts t w => run_max_gap ts t s hs' w
  clear hs hs'
  unfold pol
  go_enter Try.func29, Try.ntmps29
  go_upto_if 51 with (go_at_call 32; refine (elapsed_any _ _ _).mono ?_; rintro e w' ⟨rfl, rfl⟩)
  go_cut [] (fun w' => rsAt w' b 0 t 0 ris false ∧ Below b w w')
  case first =>
    go_wp2
    go_meet
    case rel =>
      refine ⟨?_, ?_⟩
      · simp only [rsAt]
        go_simp
      · repeat (first | (with_reducible refine Below.alloc ?_ (by simp; omega) _) | (with_reducible refine Below.setCell ?_ (by simp) _) | (with_reducible exact Below.refl _ _))
  case rest =>
    obtain ⟨⟨g0, g1, g2, g3, g4, e0, e1, e2, e3, e4⟩, hbel⟩ := hcut
    clear h0 h1 h2 h3 h4 f0 f1 f2 f3 f4
    go_wp2
    go_end0
    refine ⟨rfl, ?_, ?_⟩
    · simp only [rsAt]
      go_simp
    · repeat (first | (with_reducible refine Below.setCell ?_ (by simp) _) | (with_reducible exact hbel))

set_option maxHeartbeats 400000 in
theorem add_new2 (b : Nat) (c f t0 : Int) (ris rea : Bool) (t x y : Int) (u d s : Nat) (w : World) (h : rsAt w b c f t0 ris rea)
   (hs : Ieee.double.add u d = some s) (hs' : FloatKind.f64.format.order s sixty ≠ none) (hxy : (x == y) = false)
   (hc : (c == 0) = false) (hr : (decide (x < y) == ris) = true) :
    Calls Try.prog 29 #[.pointer (some ⟨b, 0, none⟩), .int .i64 t, .int .i64 x, .int .i64 y, pol u d] w fun e w' => e = .returned (.tuple #[]) ∧ rsAt w' b 1 t t (decide (x < y)) false ∧ Below b w w' := by
  obtain ⟨h0, h1, h2, h3, h4, f0, f1, f2, f3, f4⟩ := h
  have hb : b < w.heap.size := World.block_lt_of_cell? _ _ h0
  have ha := fun w => run_float_arith (P := Try.prog) w .add 22 .f64 u d s hs
  have hm := fun ts t w => run_max_gap ts t s hs' w
  clear hs hs'
  unfold pol
  go_enter Try.func29, Try.ntmps29
  go_upto_if 51 with (go_at_call 32; refine (elapsed_any _ _ _).mono ?_; rintro e w' ⟨rfl, rfl⟩)
  go_cut [] (fun w' => rsAt w' b 0 t 0 ris false ∧ Below b w w')
  case first =>
    go_wp2
    go_meet
    case rel =>
      refine ⟨?_, ?_⟩
      · simp only [rsAt]
        go_simp
      · repeat (first | (with_reducible refine Below.alloc ?_ (by simp; omega) _) | (with_reducible refine Below.setCell ?_ (by simp) _) | (with_reducible exact Below.refl _ _))
  case rest =>
    obtain ⟨⟨g0, g1, g2, g3, g4, e0, e1, e2, e3, e4⟩, hbel⟩ := hcut
    clear h0 h1 h2 h3 h4 f0 f1 f2 f3 f4
    go_wp2
    go_end0
    refine ⟨rfl, ?_, ?_⟩
    · simp only [rsAt]
      go_simp
    · repeat (first | (with_reducible refine Below.setCell ?_ (by simp) _) | (with_reducible exact hbel))

set_option maxHeartbeats 400000 in
theorem add_new3 (b : Nat) (c f t0 : Int) (ris rea : Bool) (t x y : Int) (u d s : Nat) (w : World) (h : rsAt w b c f t0 ris rea)
   (hs : Ieee.double.add u d = some s) (hs' : FloatKind.f64.format.order s sixty ≠ none) (hxy : (x == y) = false)
   (hc : (c == 0) = false) (hr : (decide (x < y) == ris) = false) (hg : (FloatKind.f64.format.order (since t0 t) (gmax s) == some .gt || FloatKind.f64.format.order (since t0 t) (gmax s) == some .eq) = true) :
    Calls Try.prog 29 #[.pointer (some ⟨b, 0, none⟩), .int .i64 t, .int .i64 x, .int .i64 y, pol u d] w fun e w' => e = .returned (.tuple #[]) ∧ rsAt w' b 1 t t (decide (x < y)) false ∧ Below b w w' := by
  obtain ⟨h0, h1, h2, h3, h4, f0, f1, f2, f3, f4⟩ := h
  have hb : b < w.heap.size := World.block_lt_of_cell? _ _ h0
  have ha := fun w => run_float_arith (P := Try.prog) w .add 22 .f64 u d s hs
  have hm := fun ts t w => run_max_gap ts t s hs' w
  clear hs hs'
  unfold pol
  go_enter Try.func29, Try.ntmps29
  go_upto_if 51 with (go_at_call 32; refine (elapsed_any _ _ _).mono ?_; rintro e w' ⟨rfl, rfl⟩)
  go_cut [] (fun w' => rsAt w' b 0 t 0 ris false ∧ Below b w w')
  case first =>
    go_wp2
    go_meet
    case rel =>
      refine ⟨?_, ?_⟩
      · simp only [rsAt]
        go_simp
      · repeat (first | (with_reducible refine Below.alloc ?_ (by simp; omega) _) | (with_reducible refine Below.setCell ?_ (by simp) _) | (with_reducible exact Below.refl _ _))
  case rest =>
    obtain ⟨⟨g0, g1, g2, g3, g4, e0, e1, e2, e3, e4⟩, hbel⟩ := hcut
    clear h0 h1 h2 h3 h4 f0 f1 f2 f3 f4
    go_wp2
    go_end0
    refine ⟨rfl, ?_, ?_⟩
    · simp only [rsAt]
      go_simp
    · repeat (first | (with_reducible refine Below.setCell ?_ (by simp) _) | (with_reducible exact hbel))

/-! the one contract of the shim over add -/
/-- the run after one decision -/
structure RS where
  c : Int
  f : Int
  t : Int
  ris : Bool
  rea : Bool

def fgeq (a b : Nat) : Bool := FloatKind.f64.format.order a b == some .gt || FloatKind.f64.format.order a b == some .eq

def RS.add (g : Nat) (r : RS) (t x y : Int) : RS :=
  if x = y then { r with rea := false }
  else if r.c = 0 ∨ decide (x < y) = r.ris ∨ fgeq (since r.t t) g = true then ⟨1, t, t, decide (x < y), false⟩
  else ⟨r.c + 1, r.f, t, decide (x < y), r.c + 1 == 6⟩

def RS.at (w : World) (b : Nat) (r : RS) : Prop := rsAt w b r.c r.f r.t r.ris r.rea

theorem add29 (b : Nat) (r : RS) (t x y : Int) (u d s : Nat) (w : World) (h : r.at w b)
   (hs : Ieee.double.add u d = some s) (hs' : FloatKind.f64.format.order s sixty ≠ none) (hc0 : 0 ≤ r.c) (hc1 : r.c ≤ 65536) :
    Calls Try.prog 29 #[.pointer (some ⟨b, 0, none⟩), .int .i64 t, .int .i64 x, .int .i64 y, pol u d] w fun e w' => e = .returned (.tuple #[]) ∧ (r.add (gmax s) t x y).at w' b ∧ Below b w w' := by
  obtain ⟨c, f, t0, ris, rea⟩ := r
  unfold RS.at at *
  simp only at h hc0 hc1
  by_cases hxy : x = y
  · subst hxy
    simpa [RS.add] using add_same b c f t0 ris rea t x u d w h
  · have hxy' : (x == y) = false := beq_eq_false_iff_ne.2 hxy
    by_cases hc : c = 0
    · simpa [RS.add, hxy, hc] using add_new1 b c f t0 ris rea t x y u d s w h hs hs' hxy' (by simpa using hc)
    · have hc' : (c == 0) = false := beq_eq_false_iff_ne.2 hc
      by_cases hr : decide (x < y) = ris
      · have e : RS.add (gmax s) ⟨c, f, t0, ris, rea⟩ t x y = ⟨1, t, t, decide (x < y), false⟩ := by
          simp only [RS.add]; rw [if_neg hxy, if_pos (.inr (.inl hr))]
        rw [e]
        exact add_new2 b c f t0 ris rea t x y u d s w h hs hs' hxy' hc' (by simpa using hr)
      · have hr' : (decide (x < y) == ris) = false := beq_eq_false_iff_ne.2 hr
        by_cases hg : fgeq (since t0 t) (gmax s) = true
        · have e : RS.add (gmax s) ⟨c, f, t0, ris, rea⟩ t x y = ⟨1, t, t, decide (x < y), false⟩ := by
            simp only [RS.add]; rw [if_neg hxy, if_pos (.inr (.inr hg))]
          rw [e]
          exact add_new3 b c f t0 ris rea t x y u d s w h hs hs' hxy' hc' hr' hg
        · have e : RS.add (gmax s) ⟨c, f, t0, ris, rea⟩ t x y = ⟨c + 1, f, t, decide (x < y), c + 1 == 6⟩ := by
            simp only [RS.add]; rw [if_neg hxy, if_neg (fun h => h.elim hc (fun h => h.elim hr hg))]
          rw [e]
          exact add_on b c f t0 ris rea t x y u d s w h hs hs' hxy' hc' hr' (Bool.eq_false_iff.2 hg) hc0 hc1

set_option maxHeartbeats 400000 in
theorem add21 (b : Nat) (r : RS) (t x y : Int) (u d s : Nat) (w : World) (h : r.at w b)
   (hs : Ieee.double.add u d = some s) (hs' : FloatKind.f64.format.order s sixty ≠ none) (hc0 : 0 ≤ r.c) (hc1 : r.c ≤ 65536) :
    Calls Try.prog 21 #[.pointer (some ⟨b, 0, none⟩), .int .i64 t, .int .i64 x, .int .i64 y, .float .f64 u, .float .f64 d] w fun e w' => e = .returned (.tuple #[]) ∧ (r.add (gmax s) t x y).at w' b ∧ Below b w w' := by
  have H := add29 b r t x y u d s w h hs hs' hc0 hc1
  unfold pol at H
  clear h hs hs' hc0 hc1
  go_enter Try.func21, Try.ntmps21
  go_wp2_with fail
  refine H.mono ?_
  rintro e w' ⟨rfl, h1, h2⟩
  clear H
  go_wp2
  go_end0
  exact ⟨rfl, h1, h2⟩
end Go.Proofs.Qxb6605212a
