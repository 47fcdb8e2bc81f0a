/- The comparisons, walked where both sides are the same. -/
import Derived.Test.Qxb6605212aFit
set_option linter.unusedVariables false
namespace Go.Proofs.Qxb6605212a
open Go.RowKit

set_option maxHeartbeats 400000 in
theorem sameFloat35 (x : Nat) (w : World) :
    Calls Try.prog 35 #[.float .f64 x, .float .f64 x] w fun e w' => e = .returned (.bool true) ∧ w' = w := by
  cases h : (FloatKind.f64.format.order x x == some .eq)
  · have h2 : (FloatKind.f64.format.order x x != some .eq) = true := by rw [bne, h]; rfl
    go_enter Try.func35, Try.ntmps35
    go_wp2
    go_ret
    exact ⟨rfl, rfl⟩
  · go_enter Try.func35, Try.ntmps35
    go_wp2
    go_ret
    exact ⟨rfl, rfl⟩

set_option maxHeartbeats 1000000 in
theorem sameFloats34_nil (w : World) :
    Calls Try.prog 34 #[.slice none 0 0, .slice none 0 0] w fun e w' => e = .returned (.bool true) ∧ ∃ k, w' = w.drewN k := by
  have q := fun w a n c => Lib.run_eql_slice_nil (P := Try.prog) w 41 22 a n c 0 0 Try.underlying41
  go_enter Try.func34, Try.ntmps34
  go_wp2
  go_loop [5] (fun i => i = .int .i64 0) (fun _ => 0)
  case atStart => rfl
  case round =>
    obtain rfl := hrel
    go_wp2
    go_ret
    exact ⟨rfl, 0, rfl⟩

set_option maxHeartbeats 1000000 in
theorem sameFloats34 (g g' n : Nat) (x : Nat → Nat) (w : World) (hn : n ≤ 1048576) (h : ∀ j, j < n → w.cell? ⟨g, j, none⟩ = some (.float .f64 (x j))) (h' : ∀ j, j < n → w.cell? ⟨g', j, none⟩ = some (.float .f64 (x j))) :
    Calls Try.prog 34 #[.slice (some ⟨g, 0, none⟩) n n, .slice (some ⟨g', 0, none⟩) n n] w fun e w' => e = .returned (.bool true) ∧ ∃ k, w' = w.drewN k := by
  have q := fun w a n c => Lib.run_eql_slice_nil (P := Try.prog) w 41 22 a n c 0 0 Try.underlying41
  go_enter Try.func34, Try.ntmps34
  go_wp2
  go_loopw [5] (fun i wr => ∃ k : Nat, k ≤ n ∧ i = .int .i64 k ∧ ∃ m, wr = w.drewN m) (fun i _ => n - (intOf i).toNat)
  case atStart => exact ⟨0, Nat.zero_le _, rfl, 0, rfl⟩
  case round =>
    obtain ⟨k, hk, rfl, m, hwr⟩ := hrel
    by_cases hlt : k < n
    · have r1 : wr.cell? ⟨g, k, none⟩ = some (.float .f64 (x k)) := by rw [hwr]; exact h k hlt
      have r2 : wr.cell? ⟨g', k, none⟩ = some (.float .f64 (x k)) := by rw [hwr]; exact h' k hlt
      have HW : Hid (wr = w.drewN m) := hwr
      clear hwr
      have i0 : (0 : Int) ≤ (k : Int) := by omega
      have i1 : (k : Int) < (n : Int) := by omega
      go_wp2
      go_quiet ((go_at_call 35; exact Calls.quiet_of_same (sameFloat35 _ _)))
      go_wp2
      go_roundw
      case rel => exact ⟨k + 1, by omega, by go_num, m + nq, by rw [HW.out, World.drewN_drewN]⟩
      case measure => simp [intOf]; omega
    · have HW : Hid (wr = w.drewN m) := hwr
      clear hwr
      go_wp2
      go_ret
      exact ⟨rfl, m, HW.out⟩

/-- two slices of floats of the call's own that hold the same -/
theorem sameFloats34_own (f f' : FOwn) (w : World) (hf : f.Own w) (hf' : f'.Own w) (hn : f.n ≤ 1048576) (en : f'.n = f.n) (ea : f'.a.isNone = f.a.isNone) (ex : f'.x = f.x) :
    Calls Try.prog 34 #[.slice f.a f.n f.n, .slice f'.a f'.n f'.n] w fun e w' => e = .returned (.bool true) ∧ ∃ k, w' = w.drewN k := by
  rcases hf with ⟨h1, h2⟩ | ⟨h1, h2⟩
  · rcases hf' with ⟨k1, k2⟩ | ⟨k1, k2⟩
    · rw [h1, h2, k1, k2]; exact sameFloats34_nil w
    · rw [h1, k1] at ea; simp at ea
  · rcases hf' with ⟨k1, k2⟩ | ⟨k1, k2⟩
    · rw [h1, k1] at ea; simp at ea
    · rw [h1, k1, en]
      refine sameFloats34 f.g f'.g f.n f.x w hn (fun j hj => h2.cell hj) (fun j hj => ?_)
      have := k2.cell (i := j) (by omega)
      rw [ex] at this
      exact this

set_option maxHeartbeats 1000000 in
theorem points27_nil (w : World) :
    Calls Try.prog 27 #[.slice none 0 0, .slice none 0 0] w fun e w' => e = .returned (.bool true) ∧ ∃ k, w' = w.drewN k := by
  have q := fun w a n c => Lib.run_eql_slice_nil (P := Try.prog) w 26 63 a n c 0 0 Try.underlying26
  go_enter Try.func27, Try.ntmps27
  go_wp2
  go_loop [5] (fun i => i = .int .i64 0) (fun _ => 0)
  case atStart => rfl
  case round =>
    obtain rfl := hrel
    go_wp2
    go_ret
    exact ⟨rfl, 0, rfl⟩

set_option maxHeartbeats 1000000 in
theorem points27 (g g' n : Nat) (T N : Nat → Int) (w : World) (hn : n ≤ 65536) (h : pts w g 0 n T N) (h' : pts w g' 0 n T N) :
    Calls Try.prog 27 #[.slice (some ⟨g, 0, none⟩) n n, .slice (some ⟨g', 0, none⟩) n n] w fun e w' => e = .returned (.bool true) ∧ ∃ k, w' = w.drewN k := by
  have q := fun w a n c => Lib.run_eql_slice_nil (P := Try.prog) w 26 63 a n c 0 0 Try.underlying26
  go_enter Try.func27, Try.ntmps27
  go_wp2
  go_loopw [5] (fun i wr => ∃ k : Nat, k ≤ n ∧ i = .int .i64 k ∧ ∃ m, wr = w.drewN m) (fun i _ => n - (intOf i).toNat)
  case atStart => exact ⟨0, Nat.zero_le _, rfl, 0, rfl⟩
  case round =>
    obtain ⟨k, hk, rfl, m, hwr⟩ := hrel
    have HW : Hid (wr = w.drewN m) := hwr
    by_cases hlt : k < n
    · have r1 : wr.cell? ⟨g, k * 2, none⟩ = some (.int .i64 (T k)) := by rw [hwr, ← Nat.zero_add (k * 2)]; exact (h k hlt).1
      have r2 : wr.cell? ⟨g, k * 2 + 1, none⟩ = some (.int .i64 (N k)) := by rw [hwr, ← Nat.zero_add (k * 2)]; exact (h k hlt).2
      have r3 : wr.cell? ⟨g', k * 2, none⟩ = some (.int .i64 (T k)) := by rw [hwr, ← Nat.zero_add (k * 2)]; exact (h' k hlt).1
      have r4 : wr.cell? ⟨g', k * 2 + 1, none⟩ = some (.int .i64 (N k)) := by rw [hwr, ← Nat.zero_add (k * 2)]; exact (h' k hlt).2
      clear hwr
      have i0 : (0 : Int) ≤ (k : Int) := by omega
      have i1 : (k : Int) < (n : Int) := by omega
      go_wp2
      go_quiet (fail)
      go_wp2
      go_roundw
      case rel => exact ⟨k + 1, by omega, by go_num, m + nq, by rw [HW.out, World.drewN_drewN]⟩
      case measure => simp [intOf]; omega
    · clear hwr
      go_wp2
      go_ret
      exact ⟨rfl, m, HW.out⟩

theorem copied_congr (T T' N N' : Nat → Int) (n i : Nat) (hT : ∀ j, j < n → T' j = T j) (hN : ∀ j, j < n → N' j = N j) : copied T' N' n i = copied T N n i := by
  simp only [copied]
  by_cases h : i / 2 < n
  · rw [if_pos h, if_pos h, hT _ h, hN _ h]
  · rw [if_neg h, if_neg h]

theorem pts_own {w : World} {g n : Nat} {T N : Nat → Int} (h : w.rowIs g 63 (n * 2) (copied T N n)) : pts w g 0 n T N := by
  intro j hj
  have h1 := h.cell (i := j * 2) (by omega)
  have h2 := h.cell (i := j * 2 + 1) (by omega)
  rw [copied_at0 _ _ _ _ hj] at h1
  have e2 : copied T N n (j * 2 + 1) = .int .i64 (N j) := by
    simp only [copied]
    rw [if_pos (by omega), if_neg (by omega), show (j * 2 + 1) / 2 = j by omega]
  rw [e2] at h2
  rw [Nat.zero_add]
  exact ⟨h1, h2⟩

/-- two slices of points of the call's own that hold the same -/
theorem points27_own (p p' : POwn) (w : World) (hp : p.Own w) (hp' : p'.Own w) (hn : p.n ≤ 65536) (en : p'.n = p.n) (ea : p'.a.isNone = p.a.isNone) (eT : ∀ j, j < p.n → p'.T j = p.T j) (eN : ∀ j, j < p.n → p'.N j = p.N j) :
    Calls Try.prog 27 #[.slice p.a p.n p.n, .slice p'.a p'.n p'.n] w fun e w' => e = .returned (.bool true) ∧ ∃ k, w' = w.drewN k := by
  rcases hp with ⟨h1, h2⟩ | ⟨h1, h2⟩
  · rcases hp' with ⟨k1, k2⟩ | ⟨k1, k2⟩
    · rw [h1, h2, k1, k2]; exact points27_nil w
    · rw [h1, k1] at ea; simp at ea
  · rcases hp' with ⟨k1, k2⟩ | ⟨k1, k2⟩
    · rw [h1, k1] at ea; simp at ea
    · rw [en] at k2
      rw [h1, k1, en]
      exact points27 p.g p'.g p.n p.T p.N w hn (pts_own h2) (pts_own (k2.congr (fun i _ => copied_congr _ _ _ _ _ _ eT eN)))
end Go.Proofs.Qxb6605212a
