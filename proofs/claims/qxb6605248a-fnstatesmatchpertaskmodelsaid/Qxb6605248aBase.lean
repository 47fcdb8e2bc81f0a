/- Leaf walks of this seat: slices as they came in, sums of lengths, searches. -/
import Derived.Test.Qxb6605248aProg
import Derived.WalkKit
import Derived.WalkSpells
import Derived.WalkLawsBesides
import Derived.Deep.QuietTactic
import Derived.BigQuiet
import Derived.Deep.DeepCutAuto
import Derived.Deep.OwnRows
import Derived.Deep.LoopGhost
import Derived.Deep.RegionHeld3
import Derived.BigRegion
import Derived.RegionTactic
set_option linter.unusedVariables false
namespace Go.Proofs.Qxb6605248a
open Go.RowKit

theorem run_make_many {P : Program} (t e : TypeId) (z : Value) (size bytes : Nat) (ht : P.underlying t = some (.slice e)) (hinfo : (P.info? e).map (fun i => (i.zero, i.size, i.bytes)) = some (some z, size, bytes))
    (n : Nat) (hbytes : bytes * n ≤ 281474976710656) (h63 : n ≤ 9223372036854775807) (w : World) :
    (Instr.makeSlice t (.int .i64 (n : Int)) (.int .i64 (n : Int))).run P w = .ok (.slice (some ⟨w.heap.size, 0, none⟩) n n) (w.alloc (.cells (madeCells z.cells (n * size)) e)) := by
  obtain ⟨i, hi, hzz⟩ := Option.map_eq_some_iff.1 hinfo
  simp only [Prod.mk.injEq] at hzz
  obtain ⟨hz, hs, hb⟩ := hzz
  have hb' : (i.bytes : Int) * (n : Int) ≤ 281474976710656 := by
    have h : ((i.bytes * n : Nat) : Int) ≤ 281474976710656 := by rw [hb]; omega
    rwa [Int.natCast_mul] at h
  have hr := run_make (P := P) w t e i z ht hi hz .i64 .i64 n n (by omega) (Int.le_refl _) hb' (by omega)
  simp only [Int.toNat_natCast, hs] at hr
  exact hr

theorem rowIs_made_many (w : World) (zc : Array Value) (m : Nat) (t : TypeId) : (w.alloc (.cells (madeCells zc m) t)).rowIs w.heap.size t m (fun i => zc[i % zc.size]!) := by
  have h := World.rowIs_alloc w (madeCells zc m) t (fun i => zc[i % zc.size]!) (by intro i hi; rw [size_madeCells] at hi; simp [madeCells, hi])
  rw [size_madeCells] at h
  exact h

theorem heap_set (w : World) (g o : Nat) (v : Value) (j : Nat) (h : j ≠ g) : (w.setCell ⟨g, o, none⟩ v).heap[j]? = w.heap[j]? := Below.heap_setCell w ⟨g, o, none⟩ v j h
theorem cell_later {w w' : World} {p : Addr} {v : Value} (hb : Below w.heap.size w w') (h : w.cell? p = some v) : w'.cell? p = some v := by
  rw [← h]
  exact World.cell?_of_block (hb.block _ (World.block_lt_of_cell? _ _ h))

/-- a slice of one-cell elements -/
def Row (w : World) (a : Option Addr) (n b o : Nat) (x : Nat → Value) : Prop :=
  (0 < n → a = some ⟨b, o, none⟩) ∧ (a = none → n = 0) ∧ ∀ j, j < n → w.cell? ⟨b, o + j, none⟩ = some (x j)
theorem Row.later {w w' : World} {a : Option Addr} {n b o : Nat} {x : Nat → Value} (h : Row w a n b o x) (hb : Below w.heap.size w w') : Row w' a n b o x := ⟨h.1, h.2.1, fun j hj => cell_later hb (h.2.2 j hj)⟩

/-- a bool, the world as it was -/
def RetB (w : World) (e : Ending) (w' : World) : Prop := ∃ p : Bool, e = .returned (.bool p) ∧ w' = w
/-- a number of at most 1048577, the world as it was -/
def RetN (w : World) (e : Ending) (w' : World) : Prop := ∃ t : Nat, e = .returned (.int .i64 t) ∧ t ≤ 1048577 ∧ w' = w

set_option maxHeartbeats 1000000 in
theorem strBytes33 (a : Option Addr) (n c b o : Nat) (T : Nat → ByteArray) (w : World) (h : Row w a n b o (fun j => .string (T j))) (hn : n ≤ 4096) (hT : ∀ j, j < n → (T j).size ≤ 1048576) :
    Calls Try.prog 33 #[.slice a n c] w (RetN w) := by
  have HR : Hid (Row w a n b o (fun j => .string (T j))) := h
  have HT : Hid (∀ j, j < n → (T j).size ≤ 1048576) := hT
  clear h hT
  go_enter Try.func33, Try.ntmps33
  go_wp2_with fail
  go_loopw [3, 4] (fun t i wr => ∃ k : Nat, ∃ s : Nat, k ≤ n ∧ i = .int .i64 k ∧ t = .int .i64 s ∧ s ≤ 1048576 ∧ wr = w) (fun _ i _ => n - (intOf i).toNat)
  case atStart => exact ⟨0, 8 * n, Nat.zero_le _, rfl, by go_num, by omega, rfl⟩
  case round =>
    obtain ⟨k, s, hk, rfl, rfl, hs, hw⟩ := hrel
    obtain rfl := hw.symm
    clear hw
    by_cases hlt : k < n
    · obtain rfl : a = some ⟨b, o, none⟩ := HR.out.1 (by omega)
      have r1 : w.cell? ⟨b, o + k, none⟩ = some (.string (T k)) := HR.out.2.2 k hlt
      have i0 : (0 : Int) ≤ (k : Int) := by omega
      have i1 : (k : Int) < (n : Int) := by omega
      have hl := HT.out k hlt
      by_cases hd : s + (T k).size ≤ 1048576
      · have hd' : (s : Int) + ((T k).size : Int) ≤ 1048576 := by omega
        go_wp2_with fail
        go_roundw
        case rel => exact ⟨k + 1, s + (T k).size, by omega, by go_num, by go_num, hd, by first | rfl | trivial⟩
        case measure => simp [intOf]; omega
      · have hd' : ¬ (s : Int) + ((T k).size : Int) ≤ 1048576 := by omega
        go_wp2_with fail
        go_ret
        exact ⟨1048577, rfl, Nat.le_refl _, rfl⟩
    · obtain rfl : k = n := by omega
      go_wp2_with fail
      go_ret
      exact ⟨s, rfl, by omega, rfl⟩
end Go.Proofs.Qxb6605248a
