/- zzMakePlan, Plan.Index, walked. -/
import Derived.Test.Qxb6605248aWithout
set_option linter.unusedVariables false
namespace Go.Proofs.Qxb6605248a
open Go.RowKit Go.Maps

/-- a task's cells -/
def taskL (s : ByteArray) (p : Int) : List Value := [.string s, .string ⟨#[]⟩, .string ⟨#[]⟩, .bool false, .int .i64 p, .bool false, .slice none 0 0, .bool false, .slice none 0 0, .string ⟨#[]⟩, .int .i64 0, .int .i64 0, .int .i64 0, .int .i64 0, .slice none 0 0]
def taskCell (I : Nat → ByteArray) (Ph : Nat → Int) (k i : Nat) : Value := if i / 15 < k then (taskL (I (i / 15)) (Ph (i / 15))).getD (i % 15) undef else (taskL ⟨#[]⟩ 0).getD (i % 15) undef
theorem lt15 (i : Nat) (h : i < 15) : i = 0 ∨ i = 1 ∨ i = 2 ∨ i = 3 ∨ i = 4 ∨ i = 5 ∨ i = 6 ∨ i = 7 ∨ i = 8 ∨ i = 9 ∨ i = 10 ∨ i = 11 ∨ i = 12 ∨ i = 13 ∨ i = 14 := by omega
theorem taskCell_step (I : Nat → ByteArray) (Ph : Nat → Int) (w : World) (g m k : Nat) (h : w.rowIs g 70 m (taskCell I Ph k)) :
    ((w.setCell ⟨g, k * 15, none⟩ (.string (I k))).setCell ⟨g, k * 15 + 4, none⟩ (.int .i64 (Ph k))).rowIs g 70 m (taskCell I Ph (k + 1)) := by
  refine ((h.set (k * 15) _).set (k * 15 + 4) _).congr ?_
  intro i _
  by_cases h4 : i / 15 = k
  · have hr : i % 15 < 15 := Nat.mod_lt _ (by omega)
    unfold taskCell
    rw [h4, if_pos (show k < k + 1 by omega), if_neg (show ¬ k < k by omega)]
    rcases lt15 _ hr with e | e | e | e | e | e | e | e | e | e | e | e | e | e | e <;> rw [e]
    · rw [if_neg (by omega), if_pos (by omega)]; rfl
    · rw [if_neg (by omega), if_neg (by omega)]; rfl
    · rw [if_neg (by omega), if_neg (by omega)]; rfl
    · rw [if_neg (by omega), if_neg (by omega)]; rfl
    · rw [if_pos (by omega)]; rfl
    · rw [if_neg (by omega), if_neg (by omega)]; rfl
    · rw [if_neg (by omega), if_neg (by omega)]; rfl
    · rw [if_neg (by omega), if_neg (by omega)]; rfl
    · rw [if_neg (by omega), if_neg (by omega)]; rfl
    · rw [if_neg (by omega), if_neg (by omega)]; rfl
    · rw [if_neg (by omega), if_neg (by omega)]; rfl
    · rw [if_neg (by omega), if_neg (by omega)]; rfl
    · rw [if_neg (by omega), if_neg (by omega)]; rfl
    · rw [if_neg (by omega), if_neg (by omega)]; rfl
    · rw [if_neg (by omega), if_neg (by omega)]; rfl
  · rw [if_neg (by omega), if_neg (by omega)]
    unfold taskCell
    by_cases h5 : i / 15 < k
    · rw [if_pos h5, if_pos (show i / 15 < k + 1 by omega)]
    · rw [if_neg h5, if_neg (show ¬ i / 15 < k + 1 by omega)]
theorem info70 : (Try.prog.info? 70).map (fun i => (i.zero, i.size, i.bytes)) = some (some (.agg #[.string ⟨#[]⟩, .string ⟨#[]⟩, .string ⟨#[]⟩, .bool false, .int .i64 0, .bool false, .slice none 0 0, .bool false, .slice none 0 0, .string ⟨#[]⟩, .int .i64 0, .int .i64 0, .int .i64 0, .int .i64 0, .slice none 0 0]), 15, 200) := by kernel_rfl

/-- each index lies in the plan -/
def Index (F : Lit → Option Value) (k : Nat) : Prop := ∀ kl v, F kl = some v → ∃ i, i < k ∧ v = .int .i64 (i : Nat)
/-- the plan -/
structure Pl where
  pb : Nat
  g : Nat
  mb : Nat
  n : Nat
  I : Nat → ByteArray
  Ph : Nat → Int
  F : Lit → Option Value
def Pl.At (p : Pl) (w : World) : Prop := w.cell? ⟨p.pb, 1, none⟩ = some (.slice (some ⟨p.g, 0, none⟩) p.n p.n) ∧ w.cell? ⟨p.pb, 5, none⟩ = some (.map (some p.mb)) ∧ w.rowIs p.g 70 (p.n * 15) (taskCell p.I p.Ph p.n) ∧ MapIs w 9 p.mb p.n p.F ∧ Index p.F p.n
theorem Pl.At.later {p : Pl} {w w' : World} (h : p.At w) (hb : Below w.heap.size w w') : p.At w' :=
  ⟨cell_later hb h.1, cell_later hb h.2.1, h.2.2.1.of_block (hb.block _ h.2.2.1.lt), h.2.2.2.1.of_block (hb.block _ h.2.2.2.1.lt), h.2.2.2.2⟩

set_option maxHeartbeats 1000000 in
theorem newPlan35 (g mb n : Nat) (w : World) :
    Calls Try.prog 35 #[.slice (some ⟨g, 0, none⟩) n n, .map (some mb)] w fun e w' => e = .returned (.pointer (some ⟨w.heap.size, 0, none⟩)) ∧ w'.cell? ⟨w.heap.size, 1, none⟩ = some (.slice (some ⟨g, 0, none⟩) n n) ∧ w'.cell? ⟨w.heap.size, 5, none⟩ = some (.map (some mb)) ∧ Below w.heap.size w w' := by
  go_enter Try.func35, Try.ntmps35
  go_wp2_with fail
  go_ret
  exact ⟨rfl, by simp, by simp, (Below.refl _ _).alloc (Nat.le_refl _) _⟩

set_option maxHeartbeats 4000000 in
theorem makePlan21 (a : Option Addr) (n c b o : Nat) (Ph : Nat → Int) (ib : Nat) (I : Nat → ByteArray) (w : World) (h : Row w a n b o (fun j => .int .i64 (Ph j))) (hI : w.rowIs ib 9 n (fun j => .string (I j))) (hn : n ≤ 4096) (hs : ∀ j, j < n → (I j).size ≤ maxLen) :
    Calls Try.prog 21 #[.slice a n c, .slice (some ⟨ib, 0, none⟩) n n] w fun e w' => ∃ p : Pl, e = .returned (.pointer (some ⟨p.pb, 0, none⟩)) ∧ p.At w' ∧ p.n = n ∧ p.Ph = Ph ∧ Below w.heap.size w w' := by
  have HR : Hid (Row w a n b o (fun j => .int .i64 (Ph j))) := h
  have HI : Hid (w.rowIs ib 9 n (fun j => .string (I j))) := hI
  have HS : Hid (∀ j, j < n → (I j).size ≤ maxLen) := hs
  clear h hI hs
  have hmk := fun w => run_make_many (P := Try.prog) 67 70 _ 15 200 Try.underlying67 info70 n (by omega) (by omega) w
  have hmm := @run_makeMap Try.prog
  go_enter Try.func21, Try.ntmps21
  go_wp2_with fail
  clear hmk hmm
  go_loopw [7] (fun i wr => ∃ k : Nat, ∃ F : Lit → Option Value, k ≤ n ∧ i = .int .i64 k ∧ Hid (wr.rowIs w.heap.size 70 (n * 15) (taskCell I Ph k)) ∧ Hid (MapIs wr 9 (w.heap.size + 1) k F) ∧ Hid (Index F k) ∧ Hid (Below w.heap.size w wr)) (fun i _ => n - (intOf i).toNat)
  case atStart =>
    refine ⟨0, fun _ => none, Nat.zero_le _, rfl, ?_, ?_, (fun kl v hv => by cases hv), ((Below.refl _ _).alloc (Nat.le_refl _) _).alloc (by simp) _⟩
    · have h1 := rowIs_made_many w #[.string ⟨#[]⟩, .string ⟨#[]⟩, .string ⟨#[]⟩, .bool false, .int .i64 0, .bool false, .slice none 0 0, .bool false, .slice none 0 0, .string ⟨#[]⟩, .int .i64 0, .int .i64 0, .int .i64 0, .int .i64 0, .slice none 0 0] (n * 15) 70
      refine World.rowIs.congr (h1.of_block (Below.heap_alloc _ _ _ (by simp))) ?_
      intro i hi
      simp only [taskCell, Nat.not_lt_zero, if_false]
      have hz : ∀ j, j < 15 → (#[Value.string ⟨#[]⟩, .string ⟨#[]⟩, .string ⟨#[]⟩, .bool false, .int .i64 0, .bool false, .slice none 0 0, .bool false, .slice none 0 0, .string ⟨#[]⟩, .int .i64 0, .int .i64 0, .int .i64 0, .int .i64 0, .slice none 0 0] : Array Value)[j]! = (taskL ⟨#[]⟩ 0).getD j undef := by
        intro j hj
        rcases lt15 j hj with e | e | e | e | e | e | e | e | e | e | e | e | e | e | e <;> subst e <;> rfl
      exact hz (i % 15) (Nat.mod_lt _ (by omega))
    · have h1 := MapIs.made (w.alloc (.cells (madeCells (Value.agg #[.string ⟨#[]⟩, .string ⟨#[]⟩, .string ⟨#[]⟩, .bool false, .int .i64 0, .bool false, .slice none 0 0, .bool false, .slice none 0 0, .string ⟨#[]⟩, .int .i64 0, .int .i64 0, .int .i64 0, .int .i64 0, .slice none 0 0]).cells (n * 15)) 70)) 9
      simp only [World.size_alloc] at h1
      exact h1
  case round =>
    obtain ⟨k, F, hk, rfl, HO, HM, HX, HB⟩ := hrel
    by_cases hlt : k < n
    · obtain rfl : a = some ⟨b, o, none⟩ := HR.out.1 (by omega)
      have t0 : w.cell? ⟨b, o + k, none⟩ = some (.int .i64 (Ph k)) := HR.out.2.2 k hlt
      have t1 : w.cell? ⟨ib, k, none⟩ = some (.string (I k)) := HI.out.cell hlt
      have hbl : b < w.heap.size := World.block_lt_of_cell? _ _ t0
      have hil : ib < w.heap.size := World.block_lt_of_cell? _ _ t1
      have r0 : wr.cell? ⟨b, o + k, none⟩ = some (.int .i64 (Ph k)) := cell_later HB.out t0
      have r1 : wr.cell? ⟨ib, k, none⟩ = some (.string (I k)) := cell_later HB.out t1
      clear t0 t1
      have hml : w.heap.size + 1 < wr.heap.size := HM.out.lt
      have i0 : (0 : Int) ≤ (k : Int) := by omega
      have i1 : (k : Int) < (n : Int) := by omega
      have n1 : ¬ b = w.heap.size := by omega
      have n2 : ¬ ib = w.heap.size := by omega
      have n1' : ¬ w.heap.size = b := by omega
      have n2' : ¬ w.heap.size = ib := by omega
      have s0 := HO.out.cell (i := k * 15) (by omega)
      have s1 := HO.out.cell (i := k * 15 + 4) (by omega)
      have f0 := HO.out.frozen (k * 15)
      have f1 := HO.out.frozen (k * 15 + 4)
      go_upto_region 8 with fail
      obtain ⟨w2, hw2⟩ : ∃ w2 : World, w2 = (wr.setCell ⟨w.heap.size, k * 15, none⟩ (.string (I k))).setCell ⟨w.heap.size, k * 15 + 4, none⟩ (.int .i64 (Ph k)) := ⟨_, rfl⟩
      have HO2 : Hid (w2.rowIs w.heap.size 70 (n * 15) (taskCell I Ph (k + 1))) := by rw [hw2]; exact taskCell_step I Ph wr _ _ _ HO.out
      have HM2 : Hid (MapIs w2 9 (w.heap.size + 1) k F) := by
        rw [hw2]
        refine HM.out.of_block ?_
        rw [heap_set _ _ _ _ _ (by omega), heap_set _ _ _ _ _ (by omega)]
      have HB2 : Hid (Below w.heap.size w w2) := by rw [hw2]; exact (HB.out.setCell (by simp) _).setCell (by simp) _
      rw [← hw2]
      clear hw2 s0 s1 f0 f1 r0 r1
      have r1 : w2.cell? ⟨ib, k, none⟩ = some (.string (I k)) := cell_later HB2.out (HI.out.cell hlt)
      have HK : Hid (keyOf Try.prog 9 (.string (I k)) = some (.string (I k).data.toList)) := WideMaps.keyOf_string_mk Try.underlying9 (HS.out k hlt)
      cases hf : (F (.string (I k).data.toList)).isSome
      · go_wp2_with (first | (refine wpList_look_ok rfl _ _ 68 rfl 9 3 law9 Try.underlying68 (.int .i64 0) (zero3 _) (w.heap.size + 1) k F rfl HM2.out (.string (I k)) _ rfl HK.out ?_) | (refine wpList_put rfl _ _ _ 68 rfl 9 3 law9 Try.underlying68 (w.heap.size + 1) k F rfl HM2.out ?c1 (.string (I k)) (.int .i64 (k : Nat)) _ rfl rfl HK.out ?_))
        case c1 => unfold maxLen; omega
        intro w3 hm3 hg3
        have HM3 : Hid (MapIs w3 9 (w.heap.size + 1) (k + 1) (putF F (.string (I k).data.toList) (.int .i64 (k : Nat)))) := hm3
        have HB23 : Hid (Below (w.heap.size + 1) w2 w3) := below_grown hg3 (Nat.le_refl _) (by have := HB2.out.size; have := HM2.out.lt; omega)
        have HO3 : Hid (w3.rowIs w.heap.size 70 (n * 15) (taskCell I Ph (k + 1))) := HO2.out.of_block (HB23.out.block _ (by omega))
        have HX3 : Hid (Index (putF F (.string (I k).data.toList) (.int .i64 (k : Nat))) (k + 1)) := by
          intro kl v hv
          unfold putF at hv
          split at hv
          · cases hv
            exact ⟨k, by omega, rfl⟩
          · obtain ⟨i, h1, h2⟩ := HX.out kl v hv
            exact ⟨i, by omega, h2⟩
        clear hm3 hg3
        go_wp2_with fail
        go_roundw
        case rel => exact ⟨k + 1, _, by omega, by go_num, HO3, HM3, HX3, HB2.out.trans (HB23.out.mono (by omega))⟩
        case measure => simp [intOf]; omega
      · go_wp2_with (first | (refine wpList_look_ok rfl _ _ 68 rfl 9 3 law9 Try.underlying68 (.int .i64 0) (zero3 _) (w.heap.size + 1) k F rfl HM2.out (.string (I k)) _ rfl HK.out ?_))
        go_roundw
        case rel => exact ⟨k + 1, F, by omega, by go_num, HO2, HM2.out.mono (by omega), (fun kl v hv => by obtain ⟨i, h1, h2⟩ := HX.out kl v hv; exact ⟨i, by omega, h2⟩), HB2⟩
        case measure => simp [intOf]; omega
    · obtain rfl : k = n := by omega
      go_wp2_with fail
      refine (newPlan35 w.heap.size (w.heap.size + 1) k wr).mono ?_
      rintro e w4 ⟨rfl, hc1, hc5, hb4⟩
      have HP : Hid (Pl.At ⟨wr.heap.size, w.heap.size, w.heap.size + 1, k, I, Ph, F⟩ w4) := ⟨hc1, hc5, HO.out.of_block (hb4.block _ HO.out.lt), HM.out.of_block (hb4.block _ HM.out.lt), HX.out⟩
      have HB4 : Hid (Below w.heap.size w w4) := HB.out.trans (hb4.mono HB.out.size)
      clear hc1 hc5 hb4
      go_wp2_with fail
      go_ret
      exact ⟨⟨wr.heap.size, w.heap.size, w.heap.size + 1, k, I, Ph, F⟩, rfl, HP.out, rfl, rfl, HB4.out⟩
end Go.Proofs.Qxb6605248a
