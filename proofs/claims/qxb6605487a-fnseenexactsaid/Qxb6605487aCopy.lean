/- zzCopy and the bound on lengths, walked. -/
import Derived.Test.Qxb6605487aLeaf
import Derived.BigRegion
import Derived.RegionTactic
set_option linter.unusedVariables false
namespace Go.Proofs.Qxb6605487a
open Go.RowKit

/-- a slice of bytes that came in -/
structure BIn where
  a : Option Addr
  n : Nat
  c : Nat
  b : Nat
  o : Nat
  x : Nat → Int
def BIn.In (f : BIn) (w : World) : Prop :=
  (0 < f.n → f.a = some ⟨f.b, f.o, none⟩) ∧ (f.a = none → f.n = 0 ∧ f.c = 0) ∧ ∀ j, j < f.n → w.cell? ⟨f.b, f.o + j, none⟩ = some (.int .u8 (f.x j))

theorem cell_later {w w' : World} {p : Addr} {v : Value} (hb : Below w.heap.size w w') (h : w.cell? p = some v) : w'.cell? p = some v := by
  rw [← h]
  exact World.cell?_of_block (hb.block _ (World.block_lt_of_cell? _ _ h))
theorem BIn.In.later {f : BIn} {w w' : World} (h : f.In w) (hb : Below w.heap.size w w') : f.In w' := ⟨h.1, h.2.1, fun j hj => cell_later hb (h.2.2 j hj)⟩

theorem run_make_many {P : Program} (t e : TypeId) (z : Value) (size bytes : Nat) (ht : P.underlying t = some (.slice e)) (hinfo : (P.info? e).map (fun i => (i.zero, i.size, i.bytes)) = some (some z, size, bytes))
    (n : Nat) (hbytes : bytes * n ≤ 281474976710656) (h63 : n ≤ 9223372036854775807) (w : World) :
    (Instr.makeSlice t (.int .i64 (n : Int)) (.int .i64 (n : Int))).run P w = .ok (.slice (some ⟨w.heap.size, 0, none⟩) n n) (w.alloc (.cells (madeCells z.cells (n * size)) e)) := by
  obtain ⟨i, hi, hzz⟩ := Option.map_eq_some_iff.1 hinfo
  simp only [Prod.mk.injEq] at hzz
  obtain ⟨hz, hs, hb⟩ := hzz
  have hb' : (i.bytes : Int) * (n : Int) ≤ 281474976710656 := by
    have h : ((i.bytes * n : Nat) : Int) ≤ 281474976710656 := by rw [hb]; omega
    rwa [Int.natCast_mul] at h
  have hr := run_make (P := P) w t e i z ht hi hz .i64 .i64 n n (by omega) (Int.le_refl _) hb' (by omega)
  simp only [Int.toNat_natCast, hs] at hr
  exact hr

theorem rowIs_made_many (w : World) (zc : Array Value) (m : Nat) (t : TypeId) : (w.alloc (.cells (madeCells zc m) t)).rowIs w.heap.size t m (fun i => zc[i % zc.size]!) := by
  have h := World.rowIs_alloc w (madeCells zc m) t (fun i => zc[i % zc.size]!) (by intro i hi; rw [size_madeCells] at hi; simp [madeCells, hi])
  rw [size_madeCells] at h
  exact h

theorem info5 : (Try.prog.info? 5).map (fun i => (i.zero, i.size, i.bytes)) = some (some (.int .u8 0), 1, 1) := by kernel_rfl

set_option maxHeartbeats 400000 in
theorem copy7_nil (w : World) :
    Calls Try.prog 7 #[.slice none 0 0] w fun e w' => e = .returned (.slice none 0 0) ∧ w' = w := by
  have q := fun w a n c => Lib.run_eql_slice_nil (P := Try.prog) w 22 5 a n c 0 0 Try.underlying22
  go_enter Try.func7, Try.ntmps7
  go_wp2
  go_ret
  exact ⟨rfl, rfl⟩

set_option maxHeartbeats 1000000 in
theorem copy7 (f : BIn) (w : World) (hn : f.n ≤ 1048576) (hnn : f.a.isNone = false) (h : f.In w) :
    Calls Try.prog 7 #[.slice f.a f.n f.c] w fun e w' => e = .returned (.slice (some ⟨w.heap.size, 0, none⟩) f.n f.n) ∧ Below w.heap.size w w' := by
  obtain ⟨a, n, c, b, o, x⟩ := f
  simp only at *
  have q := fun w a n c => Lib.run_eql_slice_nil (P := Try.prog) w 22 5 a n c 0 0 Try.underlying22
  have hmk := fun w => run_make_many (P := Try.prog) 22 5 _ 1 1 Try.underlying22 info5 n (by omega) (by omega) w
  have HF : Hid (BIn.In ⟨a, n, c, b, o, x⟩ w) := h
  clear h
  go_enter Try.func7, Try.ntmps7
  go_wp2
  go_loopw [4] (fun i wr => ∃ k : Nat, ∃ X : Nat → Int, k ≤ n ∧ i = .int .i64 k ∧ wr.rowIs w.heap.size 5 n (fun i => .int .u8 (X i)) ∧ Below w.heap.size w wr) (fun i _ => n - (intOf i).toNat)
  case atStart =>
    refine ⟨0, fun _ => 0, Nat.zero_le _, rfl, ?_, (Below.refl _ _).alloc (Nat.le_refl _) _⟩
    exact World.rowIs_made w (.int .u8 0) n 5
  case round =>
    obtain ⟨k, X, hk, rfl, hrow, hbel⟩ := hrel
    by_cases hlt : k < n
    · obtain rfl : a = some ⟨b, o, none⟩ := HF.out.1 (by show 0 < n; omega)
      have r1 : wr.cell? ⟨b, o + k, none⟩ = some (.int .u8 (x k)) := cell_later hbel (HF.out.2.2 k hlt)
      have s1 := hrow.cell (i := k) hlt
      have f1 := hrow.frozen k
      have hstep : (wr.setCell ⟨w.heap.size, k, none⟩ (.int .u8 (x k))).rowIs w.heap.size 5 n (fun i => .int .u8 (if i = k then x k else X i)) := by
        refine (hrow.set k (.int .u8 (x k))).congr ?_
        intro i _
        by_cases h1 : i = k
        · subst h1; simp
        · rw [if_neg h1, if_neg h1]
      have HST : Hid ((wr.setCell ⟨w.heap.size, k, none⟩ (.int .u8 (x k))).rowIs w.heap.size 5 n (fun i => .int .u8 (if i = k then x k else X i))) := hstep
      clear hstep
      go_wp2
      go_roundw
      case rel => exact ⟨k + 1, _, by omega, by go_num, HST.out, hbel.setCell (by simp) _⟩
      case measure => simp [intOf]; omega
    · obtain rfl : k = n := by omega
      clear hrow
      go_wp2
      go_ret
      exact ⟨rfl, hbel⟩
/-- the copy of a slice of bytes, nil or not -/
theorem copy7_own (f : BIn) (w : World) (hn : f.n ≤ 1048576) (h : f.In w) :
    Calls Try.prog 7 #[.slice f.a f.n f.c] w fun e w' => ∃ a : Option Addr, e = .returned (.slice a f.n f.n) ∧ (0 < f.n → a ≠ none) ∧ (∀ q, a = some q → q.spot = none) ∧ Below w.heap.size w w' := by
  cases hnn : f.a.isNone with
  | true =>
    have ha : f.a = none := by cases hf : f.a with | none => rfl | some x => rw [hf] at hnn; simp at hnn
    obtain ⟨h1, h2⟩ := h.2.1 ha
    rw [ha, h1, h2]
    refine (copy7_nil w).mono ?_
    rintro e w' ⟨rfl, rfl⟩
    exact ⟨none, rfl, fun h => by omega, fun q h => by simp at h, Below.refl _ _⟩
  | false =>
    refine (copy7 f w hn hnn h).mono ?_
    rintro e w' ⟨rfl, hbel⟩
    exact ⟨_, rfl, fun _ => by simp, fun q h => by cases h; rfl, hbel⟩

/-- the chain that came in: three cells a version -/
structure CIn where
  a : Option Addr
  n : Nat
  c : Nat
  b : Nat
  o : Nat
  V : Nat → BIn
  D : Nat → Bool
  C : Nat → Int
def CIn.In (f : CIn) (w : World) : Prop :=
  (0 < f.n → f.a = some ⟨f.b, f.o, none⟩) ∧ (f.a = none → f.n = 0 ∧ f.c = 0) ∧ ∀ j, j < f.n → w.cell? ⟨f.b, f.o + j * 3, none⟩ = some (.slice (f.V j).a (f.V j).n (f.V j).c) ∧ w.cell? ⟨f.b, f.o + j * 3 + 1, none⟩ = some (.bool (f.D j)) ∧
    w.cell? ⟨f.b, f.o + j * 3 + 2, none⟩ = some (.int .u64 (f.C j)) ∧ (f.V j).In w ∧ 0 ≤ f.C j
theorem CIn.In.later {f : CIn} {w w' : World} (h : f.In w) (hb : Below w.heap.size w w') : f.In w' :=
  ⟨h.1, h.2.1, fun j hj => by
    obtain ⟨h0, h1, h2, h3, h4⟩ := h.2.2 j hj
    exact ⟨cell_later hb h0, cell_later hb h1, cell_later hb h2, h3.later hb, h4⟩⟩

/-- a bool; where it is true the lengths are small -/
def RetL (n : Nat) (V : Nat → BIn) (w : World) (e : Ending) (w' : World) : Prop := ∃ p : Bool, e = .returned (.bool p) ∧ (p = true → ∀ j, j < n → (V j).n ≤ 1048576) ∧ Below w.heap.size w w'

set_option maxHeartbeats 1000000 in
theorem bytes11 (z : Bool) (f : CIn) (w : World) (h : f.In w) :
    Calls Try.prog 11 #[.bool z, .slice f.a f.n f.c] w (RetL f.n f.V w) := by
  obtain ⟨a, n, c, b, o, V, D, C⟩ := f
  have HF : Hid (CIn.In ⟨a, n, c, b, o, V, D, C⟩ w) := h
  clear h
  simp only at *
  by_cases hn : n ≤ 1048576
  · go_enter Try.func11, Try.ntmps11
    go_wp2_with fail
    go_loopw [5, 6] (fun zz i wr => ∃ k : Nat, ∃ t : Nat, k ≤ n ∧ i = .int .i64 k ∧ zz = .int .i64 t ∧ t ≤ 1048576 ∧ Hid (∀ j, j < k → (V j).n ≤ 1048576) ∧ Below w.heap.size w wr) (fun _ i _ => n - (intOf i).toNat)
    case atStart => exact ⟨0, n, Nat.zero_le _, rfl, rfl, hn, fun j hj => by omega, Below.refl _ _⟩
    case round =>
      obtain ⟨k, t, hk, rfl, rfl, ht, HV, hbel⟩ := hrel
      by_cases hlt : k < n
      · obtain rfl : a = some ⟨b, o, none⟩ := HF.out.1 (by show 0 < n; omega)
        have r1 : wr.cell? ⟨b, o + k * 3, none⟩ = some (.slice (V k).a (V k).n (V k).c) := cell_later hbel (HF.out.2.2 k hlt).1
        have i0 : (0 : Int) ≤ (k : Int) := by omega
        have i1 : (k : Int) < (n : Int) := by omega
        by_cases hv : (V k).n ≤ 1048576
        · by_cases hs : t + (V k).n ≤ 1048576
          · have hs' : (t : Int) + ((V k).n : Int) ≤ 1048576 := by omega
            have HV2 : Hid (∀ j, j < k + 1 → (V j).n ≤ 1048576) := fun j hj => by
              by_cases hjk : j < k
              · exact HV.out j hjk
              · obtain rfl : j = k := by omega
                exact hv
            go_wp2_with fail
            go_roundw
            case rel => exact ⟨k + 1, t + (V k).n, by omega, by go_num, by go_num, hs, HV2, hbel⟩
            case measure => simp [intOf]; omega
          · have hs' : ¬ (t : Int) + ((V k).n : Int) ≤ 1048576 := by omega
            go_wp2_with fail
            go_ret
            exact ⟨false, rfl, fun h => by simp at h, hbel⟩
        · go_wp2_with fail
          go_ret
          exact ⟨false, rfl, fun h => by simp at h, hbel⟩
      · obtain rfl : k = n := by omega
        go_wp2_with fail
        go_ret
        exact ⟨true, rfl, fun _ => HV.out, hbel⟩
  · go_enter Try.func11, Try.ntmps11
    go_wp2_with fail
    go_ret
    exact ⟨false, rfl, fun h => by simp at h, Below.refl _ _⟩
end Go.Proofs.Qxb6605487a
