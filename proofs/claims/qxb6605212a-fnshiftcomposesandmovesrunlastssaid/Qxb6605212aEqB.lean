/- The comparison of runs, of states; a run's Last. -/
import Derived.Test.Qxb6605212aEqA
set_option linter.unusedVariables false
namespace Go.Proofs.Qxb6605212a
open Go.RowKit

/-- the four cells of run j -/
theorem runCells {S F E : Nat → Int} {B : Nat → FOwn} {w : World} {g n : Nat} (h : w.rowIs g 43 (n * 4) (runCell S F E B n)) (k : Nat) (hk : k < n) :
    w.cell? ⟨g, k * 4, none⟩ = some (.int .i64 (S k)) ∧ w.cell? ⟨g, k * 4 + 1, none⟩ = some (.int .i64 (F k)) ∧ w.cell? ⟨g, k * 4 + 2, none⟩ = some (.int .i64 (E k)) ∧ w.cell? ⟨g, k * 4 + 3, none⟩ = some (.slice (B k).a (B k).n (B k).n) := by
  have h0 := h.cell (i := k * 4) (by omega)
  have h1 := h.cell (i := k * 4 + 1) (by omega)
  have h2 := h.cell (i := k * 4 + 2) (by omega)
  have h3 := h.cell (i := k * 4 + 3) (by omega)
  have e0 : runCell S F E B n (k * 4) = .int .i64 (S k) := by
    unfold runCell
    rw [if_pos (by omega), if_pos (by omega), show k * 4 / 4 = k by omega]
  have e1 : runCell S F E B n (k * 4 + 1) = .int .i64 (F k) := by
    unfold runCell
    rw [if_pos (by omega), if_neg (by omega), if_pos (by omega), show (k * 4 + 1) / 4 = k by omega]
  have e2 : runCell S F E B n (k * 4 + 2) = .int .i64 (E k) := by
    unfold runCell
    rw [if_pos (by omega), if_neg (by omega), if_neg (by omega), if_pos (by omega), show (k * 4 + 2) / 4 = k by omega]
  have e3 : runCell S F E B n (k * 4 + 3) = .slice (B k).a (B k).n (B k).n := by
    unfold runCell
    rw [if_pos (by omega), if_neg (by omega), if_neg (by omega), if_neg (by omega), show (k * 4 + 3) / 4 = k by omega]
  rw [e0] at h0
  rw [e1] at h1
  rw [e2] at h2
  rw [e3] at h3
  exact ⟨h0, h1, h2, h3⟩

set_option maxHeartbeats 1000000 in
theorem runs28_nil (w : World) :
    Calls Try.prog 28 #[.slice none 0 0, .slice none 0 0] w fun e w' => e = .returned (.bool true) ∧ ∃ k, w' = w.drewN k := by
  have q := fun w a n c => Lib.run_eql_slice_nil (P := Try.prog) w 35 43 a n c 0 0 Try.underlying35
  go_enter Try.func28, Try.ntmps28
  go_wp2
  go_loop [5] (fun i => i = .int .i64 0) (fun _ => 0)
  case atStart => rfl
  case round =>
    obtain rfl := hrel
    go_wp2
    go_ret
    exact ⟨rfl, 0, rfl⟩

set_option maxHeartbeats 2000000 in
theorem runs28 (g g' n : Nat) (S F E : Nat → Int) (B B' : Nat → FOwn) (w : World) (hn : n ≤ 65536) (h : w.rowIs g 43 (n * 4) (runCell S F E B n)) (h' : w.rowIs g' 43 (n * 4) (runCell S F E B' n))
    (hB : ∀ j, j < n → (B j).Own w ∧ (B' j).Own w ∧ (B j).n ≤ 1048576 ∧ (B' j).n = (B j).n ∧ (B' j).a.isNone = (B j).a.isNone ∧ (B' j).x = (B j).x) :
    Calls Try.prog 28 #[.slice (some ⟨g, 0, none⟩) n n, .slice (some ⟨g', 0, none⟩) n n] w fun e w' => e = .returned (.bool true) ∧ ∃ k, w' = w.drewN k := by
  have q := fun w a n c => Lib.run_eql_slice_nil (P := Try.prog) w 35 43 a n c 0 0 Try.underlying35
  have HH : Hid (w.rowIs g 43 (n * 4) (runCell S F E B n)) := h
  have HH' : Hid (w.rowIs g' 43 (n * 4) (runCell S F E B' n)) := h'
  have HB : Hid (∀ j, j < n → (B j).Own w ∧ (B' j).Own w ∧ (B j).n ≤ 1048576 ∧ (B' j).n = (B j).n ∧ (B' j).a.isNone = (B j).a.isNone ∧ (B' j).x = (B j).x) := hB
  clear h h' hB
  go_enter Try.func28, Try.ntmps28
  go_wp2
  go_loopw [5] (fun i wr => ∃ k : Nat, k ≤ n ∧ i = .int .i64 k ∧ ∃ m, wr = w.drewN m) (fun i _ => n - (intOf i).toNat)
  case atStart => exact ⟨0, Nat.zero_le _, rfl, 0, rfl⟩
  case round =>
    obtain ⟨k, hk, rfl, m, hwr⟩ := hrel
    have HW : Hid (wr = w.drewN m) := hwr
    by_cases hlt : k < n
    · obtain ⟨r0, r1, r2, r3⟩ : wr.cell? ⟨g, k * 4, none⟩ = some (.int .i64 (S k)) ∧ wr.cell? ⟨g, k * 4 + 1, none⟩ = some (.int .i64 (F k)) ∧ wr.cell? ⟨g, k * 4 + 2, none⟩ = some (.int .i64 (E k)) ∧ wr.cell? ⟨g, k * 4 + 3, none⟩ = some (.slice (B k).a (B k).n (B k).n) := by rw [hwr]; exact runCells HH.out k hlt
      obtain ⟨s0, s1, s2, s3⟩ : wr.cell? ⟨g', k * 4, none⟩ = some (.int .i64 (S k)) ∧ wr.cell? ⟨g', k * 4 + 1, none⟩ = some (.int .i64 (F k)) ∧ wr.cell? ⟨g', k * 4 + 2, none⟩ = some (.int .i64 (E k)) ∧ wr.cell? ⟨g', k * 4 + 3, none⟩ = some (.slice (B' k).a (B' k).n (B' k).n) := by rw [hwr]; exact runCells HH'.out k hlt
      have HO : Hid ((B k).Own wr ∧ (B' k).Own wr ∧ (B k).n ≤ 1048576 ∧ (B' k).n = (B k).n ∧ (B' k).a.isNone = (B k).a.isNone ∧ (B' k).x = (B k).x) := by rw [hwr]; exact HB.out k hlt
      clear hwr
      have i0 : (0 : Int) ≤ (k : Int) := by omega
      have i1 : (k : Int) < (n : Int) := by omega
      go_wp2
      go_quiet ((go_at_call 34; exact Calls.quiet_of (sameFloats34_own (B k) (B' k) _ (by exact HO.out.1) (by exact HO.out.2.1) HO.out.2.2.1 HO.out.2.2.2.1 HO.out.2.2.2.2.1 HO.out.2.2.2.2.2)))
      go_wp2
      go_roundw
      case rel => exact ⟨k + 1, by omega, by go_num, m + nq, by rw [HW.out, World.drewN_drewN]⟩
      case measure => simp [intOf]; omega
    · clear hwr
      go_wp2
      go_ret
      exact ⟨rfl, m, HW.out⟩

theorem runCell_congrF (S F F' E : Nat → Int) (B : Nat → FOwn) (n i : Nat) (hi : i < n * 4) (h : ∀ j, j < n → F' j = F j) : runCell S F' E B n i = runCell S F E B n i := by
  have hi4 : i / 4 < n := by omega
  unfold runCell
  rw [if_pos hi4, if_pos hi4, h _ hi4]

/-- two slices of runs of the call's own that hold the same -/
theorem runs28_own (r r' : ROwn) (w : World) (hr : r.Own w) (hr' : r'.Own w) (hn : r.n ≤ 65536) (en : r'.n = r.n) (ea : r'.a.isNone = r.a.isNone) (eS : r'.S = r.S) (eF : ∀ j, j < r.n → r'.F j = r.F j) (eE : r'.E = r.E)
    (eB : ∀ j, j < r.n → (r.B j).n ≤ 1048576 ∧ (r'.B j).n = (r.B j).n ∧ (r'.B j).a.isNone = (r.B j).a.isNone ∧ (r'.B j).x = (r.B j).x) :
    Calls Try.prog 28 #[.slice r.a r.n r.n, .slice r'.a r'.n r'.n] w fun e w' => e = .returned (.bool true) ∧ ∃ k, w' = w.drewN k := by
  rcases hr with ⟨h1, h2⟩ | ⟨h1, h2, h3⟩
  · rcases hr' with ⟨k1, k2⟩ | ⟨k1, k2, k3⟩
    · rw [h1, h2, k1, k2]; exact runs28_nil w
    · rw [h1, k1] at ea; simp at ea
  · rcases hr' with ⟨k1, k2⟩ | ⟨k1, k2, k3⟩
    · rw [h1, k1] at ea; simp at ea
    · rw [en, eS, eE] at k2
      rw [h1, k1, en]
      refine runs28 r.g r'.g r.n r.S r.F r.E r.B r'.B w hn h2 (k2.congr (fun i hi => runCell_congrF _ _ _ _ _ _ _ hi eF)) (fun j hj => ?_)
      exact ⟨h3 j hj, k3 j (by omega), eB j hj⟩

/-- a run's last second -/
def lastOf (F E : Int) (n : Nat) : Int := wrap64 (F + wrap64 (((n : Int) - 1) * E))

set_option maxHeartbeats 400000 in
theorem last17 (S F E : Int) (a : Option Addr) (n c : Nat) (w : World) (hn : n ≤ 1048576) :
    Calls Try.prog 17 #[.agg #[.int .i64 S, .int .i64 F, .int .i64 E, .slice a n c]] w fun e w' => e = .returned (.int .i64 (lastOf F E n)) ∧ Below w.heap.size w w' := by
  go_enter Try.func17, Try.ntmps17
  go_wp2
  go_ret
  exact ⟨rfl, (Below.refl _ _).alloc (Nat.le_refl _) _⟩
end Go.Proofs.Qxb6605212a
