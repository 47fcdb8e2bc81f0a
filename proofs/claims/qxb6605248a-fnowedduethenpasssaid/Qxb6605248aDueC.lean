/- FnOwedDueThenPass, walked. -/
import Derived.Test.Qxb6605248aDueB
set_option linter.unusedVariables false
namespace Go.Proofs.Qxb6605248a
open Go.RowKit Go.Maps

set_option maxRecDepth 4000 in
set_option maxHeartbeats 16000000 in
theorem due_law (A B C D E : Sl) (Ph : Nat → Int) (I T : Nat → ByteArray) (P : Nat → Option Addr) (G : Nat → Int) (Ev : Nat → ByteArray) (g : Int) (w : World)
    (hA : Row w A.a A.n A.b A.o (fun j => .int .i64 (Ph j))) (hB : Row w B.a B.n B.b B.o (fun j => .string (I j))) (hC : Row w C.a C.n C.b C.o (fun j => .string (T j))) (hD : Row w D.a D.n D.b D.o (fun j => .pointer (P j))) (hE : Row w E.a E.n E.b E.o (fun j => .string (Ev j)))
    (hG : Gates w D.n P G) (hDc : D.a = none → D.c = 0) (hwG : ∀ j, j < D.n → P j ≠ none → (Lit.int .i64 (G j)).wf = true) (hwP : ∀ j, j < A.n → (Lit.int .i64 (Ph j)).wf = true) (hwg : (Lit.int .i64 g).wf = true) :
    Calls Try.prog 6 #[.slice A.a A.n A.c, .slice B.a B.n B.c, .slice C.a C.n C.c, .slice D.a D.n D.c, .slice E.a E.n E.c, .int .i64 g] w fun e w' => e = .returned (.bool true) ∧ Below w.heap.size w w' := by
  obtain ⟨HA, HB, HC, HD, HE⟩ : Hid (Row w A.a A.n A.b A.o (fun j => .int .i64 (Ph j))) ∧ Hid (Row w B.a B.n B.b B.o (fun j => .string (I j))) ∧ Hid (Row w C.a C.n C.b C.o (fun j => .string (T j))) ∧ Hid (Row w D.a D.n D.b D.o (fun j => .pointer (P j))) ∧ Hid (Row w E.a E.n E.b E.o (fun j => .string (Ev j))) := ⟨hA, hB, hC, hD, hE⟩
  obtain ⟨HG, HDc, HwG, HwP, Hwg⟩ : Hid (Gates w D.n P G) ∧ Hid (D.a = none → D.c = 0) ∧ Hid (∀ j, j < D.n → P j ≠ none → (Lit.int .i64 (G j)).wf = true) ∧ Hid (∀ j, j < A.n → (Lit.int .i64 (Ph j)).wf = true) ∧ Hid ((Lit.int .i64 g).wf = true) := ⟨hG, hDc, hwG, hwP, hwg⟩
  clear hA hB hC hD hE hG hDc hwG hwP hwg
  go_enter Try.func6, Try.ntmps6
  go_wp2_with fail
  refine (bytes26 A.a A.n A.c B.a B.n B.c B.b B.o I C.a C.n C.c C.b C.o T D.a D.n D.c E.a E.n E.c E.b E.o Ev g w HB.out HC.out HE.out).mono ?_
  rintro e w' ⟨p, rfl, hsm, hw⟩
  obtain rfl := hw.symm
  clear hw
  have HSM0 : Hid (p = true → bytes26_small B.n C.n E.n I T Ev) := hsm
  clear hsm
  cases p
  · go_wp2_with fail
    go_ret
    exact ⟨rfl, Below.refl _ _⟩
  have HSM : Hid (bytes26_small B.n C.n E.n I T Ev) := HSM0.out rfl
  clear HSM0
  by_cases hlen : A.n ≤ 4096 ∧ B.n ≤ 4096 ∧ C.n ≤ 4096 ∧ D.n ≤ 4096 ∧ E.n ≤ 4096
  · obtain ⟨l1, l2, l3, l4, l5⟩ := hlen
    go_wp2_with fail
    refine (tooBig18 A.a A.n A.c B.a B.n B.c B.b B.o I C.a C.n C.c C.b C.o T D.a D.n D.c E.a E.n E.c E.b E.o Ev w HB.out HC.out HE.out ⟨l1, l2, l3, l4, l5⟩ HSM.out).mono ?_
    rintro e w' ⟨p, rfl, hw⟩
    obtain rfl := hw.symm
    clear hw
    cases p
    rotate_left
    · go_wp2_with fail
      go_ret
      exact ⟨rfl, Below.refl _ _⟩
    go_wp2_with fail
    refine (dueLacks19 D.a D.n D.c D.b D.o P E.a E.n E.c E.b E.o Ev w HD.out HE.out ⟨l4, l5⟩).mono ?_
    rintro e w' ⟨p, rfl, hdl, hw⟩
    obtain rfl := hw.symm
    clear hw
    have HDL0 : Hid (p = false → ∀ i, i < E.n → Ev i = dueS → i < D.n ∧ P i ≠ none) := hdl
    clear hdl
    cases p
    rotate_left
    · go_wp2_with fail
      go_ret
      exact ⟨rfl, Below.refl _ _⟩
    have HDL : Hid (∀ i, i < E.n → Ev i = dueS → i < D.n ∧ P i ≠ none) := HDL0.out rfl
    clear HDL0
    go_wp2_with fail
    refine (hasInt27 A.a A.n A.c A.b A.o Ph g w HA.out (by unfold maxLen; omega)).mono ?_
    rintro e w' ⟨rfl, hw⟩
    obtain rfl := hw.symm
    clear hw
    cases hhas : hasI Ph A.n g
    · go_wp2_with fail
      go_ret
      exact ⟨rfl, Below.refl _ _⟩
    have HHAS : Hid (hasI Ph A.n g = true) := hhas
    clear hhas
    go_wp2_with fail
    refine (clone10_own D.a D.n D.c D.b D.o P G w HD.out HG.out l4 HDc.out).mono ?_
    rintro e w2 ⟨a2, g2, P2, rfl, hrow2, hgt2, his2, hb2⟩
    obtain ⟨HR2, HG2, HI2⟩ : Hid (Row w2 a2 D.n g2 0 (fun j => .pointer (P2 j))) ∧ Hid (Gates w2 D.n P2 G) ∧ Hid (∀ j, j < D.n → (P2 j).isSome = (P j).isSome) := ⟨hrow2, hgt2, his2⟩
    clear hrow2 hgt2 his2
    have HIN : Hid ((dueRecs C ⟨a2, D.n, D.n, g2, 0⟩ E T P2 Ev).In w2) := dueRecs_in (HC.out.later hb2) HR2.out (HE.out.later hb2)
    go_wp2_with fail
    refine (make11 (dueRecs C ⟨a2, D.n, D.n, g2, 0⟩ E T P2 Ev) w2 HIN.out l5).mono ?_
    rintro e w3 ⟨rfl, hrow3, hb23⟩
    have HR3 : Hid (w3.rowIs w2.heap.size 41 (E.n * 11) (recCell (dueRecs C ⟨a2, D.n, D.n, g2, 0⟩ E T P2 Ev).at E.n)) := hrow3
    have hb3 : Below w.heap.size w w3 := hb2.trans (hb23.mono hb2.size)
    have HG3 : Hid (Gates w3 D.n P2 G) := HG2.out.later hb23
    clear hrow3
    rw [show (dueRecs C ⟨a2, D.n, D.n, g2, 0⟩ E T P2 Ev).F.n = E.n from rfl]
    go_wp2_with fail
    refine (planIDs20 A.a A.n A.c B.a B.n B.c B.b B.o I w3 (HB.out.later hb3) ⟨l1, l2⟩).mono ?_
    rintro e w4 ⟨rfl, hrow4, hb34⟩
    have HR4 : Hid (w4.rowIs w3.heap.size 9 A.n (fun j => .string (idAt I B.n j))) := hrow4
    have hb4 : Below w.heap.size w w4 := hb3.trans (hb34.mono hb3.size)
    have HSI : Hid (∀ j, j < A.n → (idAt I B.n j).size ≤ maxLen) := fun j _ => by
      unfold idAt
      split
      · have := HSM.out.1 j (by assumption)
        unfold maxLen
        omega
      · exact Nat.zero_le _
    clear hrow4
    go_wp2_with fail
    refine (makePlan21 A.a A.n A.c A.b A.o Ph w3.heap.size (idAt I B.n) w4 (HA.out.later hb4) HR4.out l1 HSI.out).mono ?_
    rintro e w5 ⟨p, rfl, hpat, hpn, hpp, hb45⟩
    have hb5 : Below w.heap.size w w5 := hb4.trans (hb45.mono hb4.size)
    have hb35 : Below w3.heap.size w3 w5 := hb34.trans (hb45.mono hb34.size)
    have HP5 : Hid (p.At w5) := hpat
    have HR5 : Hid (w5.rowIs w2.heap.size 41 (E.n * 11) (recCell (dueRecs C ⟨a2, D.n, D.n, g2, 0⟩ E T P2 Ev).at E.n)) := HR3.out.of_block (hb35.block _ HR3.out.lt)
    have HO5 : Hid (OwedIn w5 w2.heap.size E.n (dueRecs C ⟨a2, D.n, D.n, g2, 0⟩ E T P2 Ev).at G) := owedIn_base (D := ⟨a2, D.n, D.n, g2, 0⟩) (P0 := P) HR5.out (HG3.out.later hb35) HI2.out HDL.out HSM.out.2.1 HwG.out
    have HPN : Hid (p.n = A.n ∧ p.Ph = Ph) := ⟨hpn, hpp⟩
    have hpn4 : p.n ≤ 4096 := by rw [hpn]; exact l1
    have HPW : Hid (∀ j, j < p.n → (Lit.int .i64 (p.Ph j)).wf = true) := by rw [hpn, hpp]; exact HwP
    clear hpat hpn hpp hb45 hb34 hb35 hb23 hb4 hb3 hb2 HR3 HR4 HSI HG3 HG2 HI2 HIN HR2 HDL HwG HG HDc
    generalize (dueRecs C ⟨a2, D.n, D.n, g2, 0⟩ E T P2 Ev).at = rc at *
    generalize w2.heap.size = rg at *
    go_wp2_with fail
    refine (owed22 p rg E.n rc G w5 HP5.out HO5.out (by omega) hpn4 HPW.out).mono ?_
    rintro e w6 ⟨vb, rfl, hown6, hb56⟩
    have HB6 : Hid (OwnInts w6 (w5.heap.size + 1) vb (sweep p.Ph (owedF p rc G E.n) p.n).1) := hown6
    have hb6 : Below w.heap.size w w6 := hb5.trans (hb56.mono hb5.size)
    have HP6 : Hid (p.At w6) := HP5.out.later hb56
    have HO6 : Hid (OwedIn w6 rg E.n rc G) := HO5.out.later hb56
    have HR6 : Hid (w6.rowIs rg 41 (E.n * 11) (recCell rc E.n)) := HR5.out.of_block (hb56.block _ HR5.out.lt)
    clear hown6 hb56 HP5 HO5 HR5 hb5
    have hmk1 := fun w => run_make_many (P := Try.prog) 30 41 _ 11 120 Try.underlying30 info41 (E.n + 1) (by omega) (by omega) w
    have hmk2 := fun w => run_make_many (P := Try.prog) 30 41 _ 11 120 Try.underlying30 info41 (E.n + 2) (by omega) (by omega) w
    have q1 : (((E.n + 1 : Nat)) : Int) = (E.n : Int) + 1 := by omega
    have q2 : (((E.n + 2 : Nat)) : Int) = (E.n : Int) + 2 := by omega
    simp only [q1] at hmk1
    simp only [q2] at hmk2
    clear q1 q2
    go_upto_region 17 with fail
    obtain ⟨w7, hw7⟩ : ∃ w7 : World, w7 = w6.alloc (.cells (madeCells #[.string ⟨#[]⟩, .pointer none, .bool false, .int .i64 0, .bool false, .string ⟨#[]⟩, .int .i64 0, .string ⟨#[]⟩, .int .u64 0, .int .i64 0, .string ⟨#[]⟩] ((E.n + 1) * 11)) 41) := ⟨_, rfl⟩
    have HZ1 : Hid (w7.rowIs w6.heap.size 41 ((E.n + 1) * 11) (recCell rc 0)) := by rw [hw7]; exact zeroRecs w6 (E.n + 1) rc
    have hbw7 : Below w6.heap.size w6 w7 := by rw [hw7]; exact (Below.refl _ _).alloc (Nat.le_refl _) _
    rw [← hw7]
    clear hw7
    have HS1 : Hid (w7.rowIs rg 41 ((E.n) * 11) (recCell rc (E.n))) := HR6.out.of_block (hbw7.block _ HR6.out.lt)
    have HC1 : Hid ((w7.setCells w6.heap.size 0 (flat rc (E.n))).rowIs w6.heap.size 41 ((E.n + 1) * 11) (recCell rc (E.n))) := copy_row HZ1.out (by omega)
    have hbs1 : Below w6.heap.size w6 (w7.setCells w6.heap.size 0 (flat rc (E.n))) := hbw7.trans (below_setCells _ _ _ _ _ (Nat.le_refl _))
    go_upto_region 18 with (first | (refine wpList_copyRecs rfl _ _ rfl w6.heap.size (E.n + 1) rg (E.n) rc ?kd ?ks (by omega) HZ1.out HS1.out ?_))
    case kd => rfl
    case ks => rfl
    generalize w7.setCells w6.heap.size 0 (flat rc (E.n)) = w8 at HC1 hbs1 ⊢
    clear HZ1 HS1 hbw7
    go_upto_region 19 with fail
    obtain ⟨w9, hw9⟩ : ∃ w9 : World, w9 = w8.alloc (.cells #[.int .i64 g] 3) := ⟨_, rfl⟩
    have HGw9 : Hid (w9.cell? ⟨w8.heap.size, 0, none⟩ = some (.int .i64 g)) := by rw [hw9]; show _ = _; simp
    have hA1 : Below w8.heap.size w8 w9 := by rw [hw9]; exact (Below.refl _ _).alloc (Nat.le_refl _) _
    rw [← hw9]
    clear hw9
    have hlt1 : w6.heap.size < w8.heap.size := HC1.out.lt
    have HCw9 : Hid (w9.rowIs w6.heap.size 41 ((E.n + 1) * 11) (recCell rc (E.n))) := HC1.out.of_block (hA1.block _ hlt1)
    have hbw9 : Below w6.heap.size w6 w9 := hbs1.trans (hA1.mono (by omega))
    have s1 := HCw9.out.cell (i := (E.n) * 11 + 1) (by omega)
    have s5 := HCw9.out.cell (i := (E.n) * 11 + 5) (by omega)
    have f1 := HCw9.out.frozen ((E.n) * 11 + 1)
    have f5 := HCw9.out.frozen ((E.n) * 11 + 5)
    go_upto_region 21 with fail
    obtain ⟨w11, hw11⟩ : ∃ w11 : World, w11 = (w9.setCell ⟨w6.heap.size, (E.n) * 11 + 1, none⟩ (.pointer (some ⟨w8.heap.size, 0, none⟩))).setCell ⟨w6.heap.size, (E.n) * 11 + 5, none⟩ (.string ⟨#[100, 117, 101]⟩) := ⟨_, rfl⟩
    have HRw11 : Hid (w11.rowIs w6.heap.size 41 ((E.n + 1) * 11) (recCell (withRec rc (E.n) { Rec.zero with gate := some ⟨w8.heap.size, 0, none⟩, ev := ⟨#[100, 117, 101]⟩ }) ((E.n) + 1))) := by rw [hw11]; exact rec_row _ _ HCw9.out
    have hbw11 : Below w6.heap.size w6 w11 := by rw [hw11]; exact (hbw9.setCell (by simp) _).setCell (by simp) _
    have HGw11 : Hid (w11.cell? ⟨w8.heap.size, 0, none⟩ = some (.int .i64 g)) := by
      show _ = _
      rw [← HGw9.out, hw11]
      refine World.cell?_of_block ?_
      rw [heap_set _ _ _ _ _ (by show w8.heap.size ≠ _; omega), heap_set _ _ _ _ _ (by show w8.heap.size ≠ _; omega)]
    rw [← hw11]
    clear hw11 s1 s5 f1 f5 HCw9 hbw9 HC1 hbs1 hA1 HGw9
    have HO11 : Hid (OwedIn w11 w6.heap.size (E.n + 1) (withRec rc E.n { Rec.zero with gate := some ⟨w8.heap.size, 0, none⟩, ev := ⟨#[100, 117, 101]⟩ }) (withG G E.n g)) := owedIn_snoc (HO6.out.later hbw11) _ g _ rfl HGw11.out (Nat.zero_le _) Hwg.out (recRow_of HRw11.out)
    have HF1 : Hid (owedF p (withRec rc E.n { Rec.zero with gate := some ⟨w8.heap.size, 0, none⟩, ev := ⟨#[100, 117, 101]⟩ }) (withG G E.n g) (E.n + 1) = setB (owedF p rc G E.n) g true) := (owedF_snoc _ _ _ _ _ _).trans (step_due _ _ _ _ rfl)
    have HP11 : Hid (p.At w11) := HP6.out.later hbw11
    have HB11 : Hid (OwnInts w11 (w5.heap.size + 1) vb (sweep p.Ph (owedF p rc G E.n) p.n).1) := HB6.out.of_below hbw11
    have hb11 : Below w.heap.size w w11 := hb6.trans (hbw11.mono hb6.size)
    generalize owedF p rc G E.n = f0 at *
    generalize (withRec rc E.n { Rec.zero with gate := some ⟨w8.heap.size, 0, none⟩, ev := ⟨#[100, 117, 101]⟩ }) = rc1 at *
    generalize withG G E.n g = G1 at *
    clear HO6 HP6 HB6 hb6 HR6 HGw11 hbw11
    go_upto_region 22 with fail
    obtain ⟨w12, hw12⟩ : ∃ w12 : World, w12 = w11.alloc (.cells (madeCells #[.string ⟨#[]⟩, .pointer none, .bool false, .int .i64 0, .bool false, .string ⟨#[]⟩, .int .i64 0, .string ⟨#[]⟩, .int .u64 0, .int .i64 0, .string ⟨#[]⟩] ((E.n + 2) * 11)) 41) := ⟨_, rfl⟩
    have HZ2 : Hid (w12.rowIs w11.heap.size 41 ((E.n + 2) * 11) (recCell rc1 0)) := by rw [hw12]; exact zeroRecs w11 (E.n + 2) rc1
    have hbw12 : Below w11.heap.size w11 w12 := by rw [hw12]; exact (Below.refl _ _).alloc (Nat.le_refl _) _
    rw [← hw12]
    clear hw12
    have HS2 : Hid (w12.rowIs w6.heap.size 41 ((E.n + 1) * 11) (recCell rc1 (E.n + 1))) := HRw11.out.of_block (hbw12.block _ HRw11.out.lt)
    have HC2 : Hid ((w12.setCells w11.heap.size 0 (flat rc1 (E.n + 1))).rowIs w11.heap.size 41 ((E.n + 2) * 11) (recCell rc1 (E.n + 1))) := copy_row HZ2.out (by omega)
    have hbs2 : Below w11.heap.size w11 (w12.setCells w11.heap.size 0 (flat rc1 (E.n + 1))) := hbw12.trans (below_setCells _ _ _ _ _ (Nat.le_refl _))
    go_upto_region 23 with (first | (refine wpList_copyRecs rfl _ _ rfl w11.heap.size (E.n + 2) w6.heap.size (E.n + 1) rc1 ?kd ?ks (by omega) HZ2.out HS2.out ?_))
    case kd => rfl
    case ks => rfl
    generalize w12.setCells w11.heap.size 0 (flat rc1 (E.n + 1)) = w13 at HC2 hbs2 ⊢
    clear HZ2 HS2 hbw12
    go_upto_region 24 with fail
    obtain ⟨w14, hw14⟩ : ∃ w14 : World, w14 = w13.alloc (.cells #[.int .i64 g] 3) := ⟨_, rfl⟩
    have HGw14 : Hid (w14.cell? ⟨w13.heap.size, 0, none⟩ = some (.int .i64 g)) := by rw [hw14]; show _ = _; simp
    have hA2 : Below w13.heap.size w13 w14 := by rw [hw14]; exact (Below.refl _ _).alloc (Nat.le_refl _) _
    rw [← hw14]
    clear hw14
    have hlt2 : w11.heap.size < w13.heap.size := HC2.out.lt
    have HCw14 : Hid (w14.rowIs w11.heap.size 41 ((E.n + 2) * 11) (recCell rc1 (E.n + 1))) := HC2.out.of_block (hA2.block _ hlt2)
    have hbw14 : Below w11.heap.size w11 w14 := hbs2.trans (hA2.mono (by omega))
    have s1 := HCw14.out.cell (i := (E.n + 1) * 11 + 1) (by omega)
    have s5 := HCw14.out.cell (i := (E.n + 1) * 11 + 5) (by omega)
    have f1 := HCw14.out.frozen ((E.n + 1) * 11 + 1)
    have f5 := HCw14.out.frozen ((E.n + 1) * 11 + 5)
    go_upto_region 26 with fail
    obtain ⟨w15, hw15⟩ : ∃ w15 : World, w15 = (w14.setCell ⟨w11.heap.size, (E.n + 1) * 11 + 1, none⟩ (.pointer (some ⟨w13.heap.size, 0, none⟩))).setCell ⟨w11.heap.size, (E.n + 1) * 11 + 5, none⟩ (.string ⟨#[102, 105, 110, 105, 115, 104, 101, 100]⟩) := ⟨_, rfl⟩
    have HRw15 : Hid (w15.rowIs w11.heap.size 41 ((E.n + 2) * 11) (recCell (withRec rc1 (E.n + 1) { Rec.zero with gate := some ⟨w13.heap.size, 0, none⟩, ev := ⟨#[102, 105, 110, 105, 115, 104, 101, 100]⟩ }) ((E.n + 1) + 1))) := by rw [hw15]; exact rec_row _ _ HCw14.out
    have hbw15 : Below w11.heap.size w11 w15 := by rw [hw15]; exact (hbw14.setCell (by simp) _).setCell (by simp) _
    have HGw15 : Hid (w15.cell? ⟨w13.heap.size, 0, none⟩ = some (.int .i64 g)) := by
      show _ = _
      rw [← HGw14.out, hw15]
      refine World.cell?_of_block ?_
      rw [heap_set _ _ _ _ _ (by show w13.heap.size ≠ _; omega), heap_set _ _ _ _ _ (by show w13.heap.size ≠ _; omega)]
    rw [← hw15]
    clear hw15 s1 s5 f1 f5 HCw14 hbw14 HC2 hbs2 hA2 HGw14
    have HO15 : Hid (OwedIn w15 w6.heap.size (E.n + 1) rc1 G1) := HO11.out.later hbw15
    have HO15b : Hid (OwedIn w15 w11.heap.size (E.n + 2) (withRec rc1 (E.n + 1) { Rec.zero with gate := some ⟨w13.heap.size, 0, none⟩, ev := ⟨#[102, 105, 110, 105, 115, 104, 101, 100]⟩ }) (withG G1 (E.n + 1) g)) := owedIn_snoc HO15.out _ g _ rfl HGw15.out (Nat.zero_le _) Hwg.out (recRow_of HRw15.out)
    have HF2 : Hid (owedF p (withRec rc1 (E.n + 1) { Rec.zero with gate := some ⟨w13.heap.size, 0, none⟩, ev := ⟨#[102, 105, 110, 105, 115, 104, 101, 100]⟩ }) (withG G1 (E.n + 1) g) (E.n + 2) = setB (setB f0 g true) g false) := ((owedF_snoc _ _ _ _ _ _).trans (step_fin_some _ _ _ _ _ rfl rfl)).trans (by rw [HF1.out])
    have HP15 : Hid (p.At w15) := HP11.out.later hbw15
    have HB15 : Hid (OwnInts w15 (w5.heap.size + 1) vb (sweep p.Ph f0 p.n).1) := HB11.out.of_below hbw15
    have hb15 : Below w.heap.size w w15 := hb11.trans (hbw15.mono hb11.size)
    generalize (withRec rc1 (E.n + 1) { Rec.zero with gate := some ⟨w13.heap.size, 0, none⟩, ev := ⟨#[102, 105, 110, 105, 115, 104, 101, 100]⟩ }) = rc2 at *
    generalize withG G1 (E.n + 1) g = G2 at *
    clear HO11 HP11 HB11 hb11 HGw15 hbw15 HRw15 HRw11
    go_wp2_with fail
    refine (owed22 p w6.heap.size (E.n + 1) rc1 G1 w15 HP15.out HO15.out (by omega) hpn4 HPW.out).mono ?_
    rintro e w16 ⟨va, rfl, hown16, hb1516⟩
    have HA16 : Hid (OwnInts w16 (w15.heap.size + 1) va (sweep p.Ph (setB f0 g true) p.n).1) := by rw [← HF1.out]; exact hown16
    have HP16 : Hid (p.At w16) := HP15.out.later hb1516
    have HO16 : Hid (OwedIn w16 w11.heap.size (E.n + 2) rc2 G2) := HO15b.out.later hb1516
    have HB16 : Hid (OwnInts w16 (w5.heap.size + 1) vb (sweep p.Ph f0 p.n).1) := HB15.out.of_below hb1516
    have hb16 : Below w.heap.size w w16 := hb15.trans (hb1516.mono hb15.size)
    clear hown16 hb1516 HP15 HO15 HO15b HB15 hb15
    go_wp2_with fail
    refine (owed22 p w11.heap.size (E.n + 2) rc2 G2 w16 HP16.out HO16.out (by omega) hpn4 HPW.out).mono ?_
    rintro e w17 ⟨vc, rfl, hown17, hb1617⟩
    have HEQ : Hid ((sweep p.Ph (setB f0 g true) p.n).1.filter (fun y => y != g) = (sweep p.Ph (setB f0 g false) p.n).1) := by
      show _ = _
      rw [(sweep_without p.Ph (setB f0 g true) g p.n).1, setB_twice]
    have HEQ0 : Hid ((sweep p.Ph f0 p.n).1.filter (fun y => y != g) = (sweep p.Ph (setB f0 g false) p.n).1) := (sweep_without p.Ph f0 g p.n).1
    have HC17 : Hid (OwnInts w17 (w16.heap.size + 1) vc (sweep p.Ph (setB f0 g false) p.n).1) := by
      have h := hown17
      rw [HF2.out, setB_twice] at h
      exact h
    have HIN1 : Hid (g ∈ (sweep p.Ph (setB f0 g true) p.n).1) := by
      refine (sweep_on p.Ph (setB f0 g true) g (setB_same _ _ _) p.n).1 ?_
      have h := HHAS.out
      rw [HPN.out.1, HPN.out.2]
      obtain ⟨j, hj, e⟩ := List.any_eq_true.1 h
      exact ⟨j, List.mem_range.1 hj, by simpa using e⟩
    have HIN2 : Hid (¬ g ∈ (sweep p.Ph (setB f0 g false) p.n).1) := (sweep_off p.Ph (setB f0 g false) g (setB_same _ _ _) p.n).1
    have HA17 : Hid (OwnInts w17 (w15.heap.size + 1) va (sweep p.Ph (setB f0 g true) p.n).1) := HA16.out.of_below hb1617
    have HB17 : Hid (OwnInts w17 (w5.heap.size + 1) vb (sweep p.Ph f0 p.n).1) := HB16.out.of_below hb1617
    have hb17 : Below w.heap.size w w17 := hb16.trans (hb1617.mono hb16.size)
    have hl1 : (sweep p.Ph (setB f0 g true) p.n).1.length ≤ 4096 := Nat.le_trans (sweep_len _ _ _) hpn4
    have hl0 : (sweep p.Ph f0 p.n).1.length ≤ 4096 := Nat.le_trans (sweep_len _ _ _) hpn4
    have hlR : (sweep p.Ph (setB f0 g false) p.n).1.length ≤ 4096 := Nat.le_trans (sweep_len _ _ _) hpn4
    clear hown17 hb1617 HP16 HO16 HB16 HA16 hb16 HF1 HF2
    generalize (sweep p.Ph (setB f0 g true) p.n).1 = L1 at *
    generalize (sweep p.Ph f0 p.n).1 = L0 at *
    generalize (sweep p.Ph (setB f0 g false) p.n).1 = R at *
    obtain ⟨a1, c1, g1, hv1, _, hr1⟩ := HA17.out.row
    obtain ⟨a0, c0, g0, hv0, _, hr0⟩ := HB17.out.row
    obtain ⟨a3, c3, g3, hv3, _, hr3⟩ := HC17.out.row
    subst hv1 hv0 hv3
    obtain ⟨HRa, HRb, HRc⟩ : Hid (Row w17 a1 L1.length g1 0 (fun j => .int .i64 (L1.getD j 0))) ∧ Hid (Row w17 a0 L0.length g0 0 (fun j => .int .i64 (L0.getD j 0))) ∧ Hid (Row w17 a3 R.length g3 0 (fun j => .int .i64 (R.getD j 0))) := ⟨hr1, hr0, hr3⟩
    clear hr1 hr0 hr3 HA17 HB17 HC17
    go_wp2_with fail
    refine (without28 a1 L1.length c1 g1 0 (fun j => L1.getD j 0) g w17 HRa.out hl1).mono ?_
    rintro e w18 ⟨v4, rfl, hown18, hb1718⟩
    rw [ints_getD, HEQ.out] at hown18
    obtain ⟨a4, c4, g4, hv4, _, hr4⟩ := hown18.row
    subst hv4
    have HRd : Hid (Row w18 a4 R.length g4 0 (fun j => .int .i64 (R.getD j 0))) := hr4
    have hb18 : Below w.heap.size w w18 := hb17.trans (hb1718.mono hb17.size)
    have HRa8 : Hid (Row w18 a1 L1.length g1 0 (fun j => .int .i64 (L1.getD j 0))) := HRa.out.later hb1718
    have HRb8 : Hid (Row w18 a0 L0.length g0 0 (fun j => .int .i64 (L0.getD j 0))) := HRb.out.later hb1718
    have HRc8 : Hid (Row w18 a3 R.length g3 0 (fun j => .int .i64 (R.getD j 0))) := HRc.out.later hb1718
    clear hr4 hown18 hb1718 HRa HRb HRc hb17
    go_wp2_with fail
    refine (hasInt27 a1 L1.length c1 g1 0 (fun j => L1.getD j 0) g w18 HRa8.out (by unfold maxLen; omega)).mono ?_
    rintro e w' ⟨rfl, hw⟩
    obtain rfl := hw.symm
    clear hw
    rw [hasI_list, decide_eq_true HIN1.out]
    go_wp2_with fail
    refine (hasInt27 a3 R.length c3 g3 0 (fun j => R.getD j 0) g w18 HRc8.out (by unfold maxLen; omega)).mono ?_
    rintro e w' ⟨rfl, hw⟩
    obtain rfl := hw.symm
    clear hw
    rw [hasI_list, decide_eq_false HIN2.out]
    go_wp2_with fail
    refine (without28 a0 L0.length c0 g0 0 (fun j => L0.getD j 0) g w18 HRb8.out hl0).mono ?_
    rintro e w19 ⟨v5, rfl, hown19, hb1819⟩
    rw [ints_getD, HEQ0.out] at hown19
    obtain ⟨a5, c5, g5, hv5, _, hr5⟩ := hown19.row
    subst hv5
    have HRe : Hid (Row w19 a5 R.length g5 0 (fun j => .int .i64 (R.getD j 0))) := hr5
    have hb19 : Below w.heap.size w w19 := hb18.trans (hb1819.mono hb18.size)
    have HRd9 : Hid (Row w19 a4 R.length g4 0 (fun j => .int .i64 (R.getD j 0))) := HRd.out.later hb1819
    have HRc9 : Hid (Row w19 a3 R.length g3 0 (fun j => .int .i64 (R.getD j 0))) := HRc8.out.later hb1819
    clear hr5 hown19 hb1819 hb18
    go_wp2_with fail
    refine (sameInts29 a4 R.length c4 g4 0 (fun j => R.getD j 0) a5 c5 g5 0 (fun j => R.getD j 0) w19 HRd9.out HRe.out (fun j _ => rfl) (by unfold maxLen; omega)).mono ?_
    rintro e w20 ⟨rfl, k1, hw20⟩
    have hb1920 : Below w19.heap.size w19 w20 := by rw [hw20]; exact below_drewN (Below.refl _ _) _
    clear hw20
    have HRd0 : Hid (Row w20 a4 R.length g4 0 (fun j => .int .i64 (R.getD j 0))) := HRd9.out.later hb1920
    have HRc0 : Hid (Row w20 a3 R.length g3 0 (fun j => .int .i64 (R.getD j 0))) := HRc9.out.later hb1920
    have hb20 : Below w.heap.size w w20 := hb19.trans (hb1920.mono hb19.size)
    clear hb1920 hb19
    go_wp2_with fail
    refine (sameInts29 a3 R.length c3 g3 0 (fun j => R.getD j 0) a4 c4 g4 0 (fun j => R.getD j 0) w20 HRc0.out HRd0.out (fun j _ => rfl) (by unfold maxLen; omega)).mono ?_
    rintro e w21 ⟨rfl, k2, hw21⟩
    have hb2021 : Below w20.heap.size w20 w21 := by rw [hw21]; exact below_drewN (Below.refl _ _) _
    have hb21 : Below w.heap.size w w21 := hb20.trans (hb2021.mono hb20.size)
    clear hw21 hb2021 hb20
    go_wp2_with fail
    go_ret
    exact ⟨rfl, hb21⟩
  · by_cases l1 : A.n ≤ 4096
    · by_cases l2 : B.n ≤ 4096
      · by_cases l3 : C.n ≤ 4096
        · by_cases l4 : D.n ≤ 4096
          · have l5 : ¬ E.n ≤ 4096 := fun h => hlen ⟨l1, l2, l3, l4, h⟩
            go_wp2_with fail
            go_ret
            exact ⟨rfl, Below.refl _ _⟩
          · go_wp2_with fail
            go_ret
            exact ⟨rfl, Below.refl _ _⟩
        · go_wp2_with fail
          go_ret
          exact ⟨rfl, Below.refl _ _⟩
      · go_wp2_with fail
        go_ret
        exact ⟨rfl, Below.refl _ _⟩
    · go_wp2_with fail
      go_ret
      exact ⟨rfl, Below.refl _ _⟩
end Go.Proofs.Qxb6605248a
