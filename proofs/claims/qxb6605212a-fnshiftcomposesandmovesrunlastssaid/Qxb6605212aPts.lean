/- THE COPY OF A SLICE OF POINTS (zToPoints), over whatever slice of points. -/
import Derived.Test.Qxb6605212aAt
import Derived.Deep.OwnRows
import Derived.Deep.RegionHeld3
import Derived.BigRegion
import Derived.RegionTactic
namespace Go.Proofs.Qxb6605212a
open Go.RowKit

/-- 'make([]T, n)', n a variable, T of whatever size, FOR EVERY WORLD -/
theorem run_make_many {P : Program} (t e : TypeId) (z : Value) (size bytes : Nat) (ht : P.underlying t = some (.slice e)) (hinfo : (P.info? e).map (fun i => (i.zero, i.size, i.bytes)) = some (some z, size, bytes))
    (n : Nat) (hbytes : bytes * n ≤ 281474976710656) (h63 : n ≤ 9223372036854775807) (w : World) :
    (Instr.makeSlice t (.int .i64 (n : Int)) (.int .i64 (n : Int))).run P w = .ok (.slice (some ⟨w.heap.size, 0, none⟩) n n) (w.alloc (.cells (madeCells z.cells (n * size)) e)) := by
  obtain ⟨i, hi, hzz⟩ := Option.map_eq_some_iff.1 hinfo
  simp only [Prod.mk.injEq] at hzz
  obtain ⟨hz, hs, hb⟩ := hzz
  have hb' : (i.bytes : Int) * (n : Int) ≤ 281474976710656 := by
    have h : ((i.bytes * n : Nat) : Int) ≤ 281474976710656 := by rw [hb]; omega
    rwa [Int.natCast_mul] at h
  have hr := run_make (P := P) w t e i z ht hi hz .i64 .i64 n n (by omega) (Int.le_refl _) hb' (by omega)
  simp only [Int.toNat_natCast, hs] at hr
  exact hr

theorem rowIs_made_many (w : World) (zc : Array Value) (m : Nat) (t : TypeId) : (w.alloc (.cells (madeCells zc m) t)).rowIs w.heap.size t m (fun i => zc[i % zc.size]!) := by
  have h := World.rowIs_alloc w (madeCells zc m) t (fun i => zc[i % zc.size]!) (by intro i hi; rw [size_madeCells] at hi; simp [madeCells, hi])
  rw [size_madeCells] at h
  exact h

theorem info63 : (Try.prog.info? 63).map (fun i => (i.zero, i.size, i.bytes)) = some (some (.agg #[.int .i64 0, .int .i64 0]), 2, 16) := by kernel_rfl

set_option maxHeartbeats 400000 in
theorem points9_nil (w : World) :
    Calls Try.prog 9 #[.slice none 0 0] w fun e w' => e = .returned (.slice none 0 0) ∧ w' = w := by
  have q := fun w a n c => Lib.run_eql_slice_nil (P := Try.prog) w 23 61 a n c 0 0 Try.underlying23
  go_enter Try.func9, Try.ntmps9
  go_wp2
  go_ret
  exact ⟨rfl, rfl⟩

/-- the copy so far: the first k points are laid, the others are nought -/
def copied (T N : Nat → Int) (k i : Nat) : Value := if i / 2 < k then (if i % 2 = 0 then .int .i64 (T (i / 2)) else .int .i64 (N (i / 2))) else .int .i64 0

theorem copied_step (T N : Nat → Int) (w : World) (g m k : Nat) (h : w.rowIs g 63 m (copied T N k)) :
    ((w.setCell ⟨g, k * 2, none⟩ (.int .i64 (T k))).setCell ⟨g, k * 2 + 1, none⟩ (.int .i64 (N k))).rowIs g 63 m (copied T N (k + 1)) := by
  refine ((h.set (k * 2) (.int .i64 (T k))).set (k * 2 + 1) (.int .i64 (N k))).congr ?_
  intro i _
  simp only [copied]
  by_cases h1 : i = k * 2 + 1
  · subst h1
    have e1 : (k * 2 + 1) / 2 = k := by omega
    have e2 : (k * 2 + 1) % 2 = 1 := by omega
    rw [if_pos rfl, e1, e2, if_pos (by omega), if_neg (by omega)]
  · rw [if_neg h1]
    by_cases h2 : i = k * 2
    · subst h2
      have e1 : (k * 2) / 2 = k := by omega
      have e2 : (k * 2) % 2 = 0 := by omega
      rw [if_pos rfl, e1, e2, if_pos (by omega), if_pos rfl]
    · rw [if_neg h2]
      by_cases h3 : i / 2 < k
      · rw [if_pos h3, if_pos (show i / 2 < k + 1 by omega)]
      · rw [if_neg h3, if_neg (show ¬ i / 2 < k + 1 by omega)]

set_option maxHeartbeats 1000000 in
theorem points9 (a : Option Addr) (b o n c : Nat) (T N : Nat → Int) (w : World) (hn : n ≤ 65536) (ha : 0 < n → a = some ⟨b, o, none⟩) (hnn : a.isNone = false) (h : pts w b o n T N) (hB : 0 < n → b < w.heap.size) :
    Calls Try.prog 9 #[.slice a n c] w fun e w' => ∃ g, e = .returned (.slice (some ⟨g, 0, none⟩) n n) ∧ w.heap.size ≤ g ∧ w'.rowIs g 63 (n * 2) (copied T N n) ∧ Below w.heap.size w w' := by
  have q := fun w a n c => Lib.run_eql_slice_nil (P := Try.prog) w 23 61 a n c 0 0 Try.underlying23
  have hmk := fun w => run_make_many (P := Try.prog) 26 63 _ 2 16 Try.underlying26 info63 n (by omega) (by omega) w
  have HA : Hid (0 < n → a = some ⟨b, o, none⟩) := ha
  clear ha
  go_enter Try.func9, Try.ntmps9
  go_wp2
  go_loopw [4] (fun i wr => ∃ k : Nat, k ≤ n ∧ i = .int .i64 k ∧ wr.rowIs w.heap.size 63 (n * 2) (copied T N k) ∧ Below w.heap.size w wr) (fun i _ => n - (intOf i).toNat)
  case atStart =>
    refine ⟨0, Nat.zero_le _, rfl, ?_, (Below.refl _ _).alloc (Nat.le_refl _) _⟩
    refine (rowIs_made_many w _ (n * 2) 63).congr ?_
    intro i hi
    simp only [copied, Nat.not_lt_zero, if_false]
    have hz : ∀ j, j < 2 → (#[Value.int .i64 0, Value.int .i64 0] : Array Value)[j]! = Value.int .i64 0 := by
      intro j hj
      match j, hj with
      | 0, _ => rfl
      | 1, _ => rfl
    exact hz (i % 2) (Nat.mod_lt _ (by omega))
  case round =>
    obtain ⟨k, hk, rfl, hrow, hbel⟩ := hrel
    by_cases hlt : k < n
    · obtain rfl := HA.out (by omega)
      have r1 : wr.cell? ⟨b, o + k * 2, none⟩ = some (.int .i64 (T k)) := (hbel.cell (by exact hB (by omega))).trans (h k hlt).1
      have r2 : wr.cell? ⟨b, o + k * 2 + 1, none⟩ = some (.int .i64 (N k)) := (hbel.cell (by exact hB (by omega))).trans (h k hlt).2
      have s1 := hrow.cell (i := k * 2) (by omega)
      have s2 := hrow.cell (i := k * 2 + 1) (by omega)
      have f1 := hrow.frozen (k * 2)
      have f2 := hrow.frozen (k * 2 + 1)
      have i0 : (0 : Int) ≤ (k : Int) := by omega
      have i1 : (k : Int) < (n : Int) := by omega
      have hne : ¬ b = w.heap.size := by have := hB (by omega); omega
      have hne2 : ¬ w.heap.size = b := fun h => hne h.symm
      go_wp2
      go_region_held3 (fun w' => w'.cell? ⟨b, o + k * 2, none⟩ = some (.int .i64 (T k)) ∧ w'.cell? ⟨b, o + k * 2 + 1, none⟩ = some (.int .i64 (N k))) (go_keep) (fail)
      have hstep := copied_step T N wr w.heap.size (n * 2) k hrow
      clear r1 r2 s1 s2 f1 f2
      go_wp2
      go_roundw
      case rel => exact ⟨k + 1, by omega, by go_num, hstep.drew, ((hbel.setCell (by simp) _).setCell (by simp) _).drew⟩
      case measure => simp [intOf]; omega
    · obtain rfl : k = n := by omega
      go_wp2
      go_ret
      exact ⟨_, rfl, Nat.le_refl _, hrow, hbel⟩
end Go.Proofs.Qxb6605212a
