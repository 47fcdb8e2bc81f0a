/- FnShiftComposesAndMovesRunLasts, walked. -/
import Derived.Test.Qxb6605212aTwoA
set_option linter.unusedVariables false
namespace Go.Proofs.Qxb6605212a
open Go.RowKit
attribute [local go_sem] run_store_flt

theorem wrapEq (x : Int) : IntKind.i64.wrap x = wrap64 x := by rw [IntKind.wrap_i64]; unfold wrap64; omega

set_option maxHeartbeats 4000000 in
theorem two_law (s : StIn) (a b : Int) (w : World) (h : s.In w) :
    Calls Try.prog 4 #[s.val, .int .i64 a, .int .i64 b] w fun e w' => e = .returned (.bool true) ∧ Below w.heap.size w w' := by
  have HS : Hid (s.In w) := h
  clear h
  simp only [StIn.val]
  go_enter Try.func4, Try.ntmps4
  go_upto_region 1 with fail
  obtain ⟨w1, hw1⟩ : ∃ w1 : World, w1 = w.alloc (.cells #[.int .i64 s.cur, .int .i64 s.last, .bool s.dec, .slice s.U.a s.U.n s.U.c, .slice s.D.a s.D.n s.D.c, .slice s.C.a s.C.n s.C.c, .int .i64 s.bef, .int .i64 s.idle, .slice s.R.a s.R.n s.R.c, .int .i64 s.bst, .bool s.bur, .int .i64 s.lost, .bool s.isl] 32) := ⟨_, rfl⟩
  have hb1 : Below w.heap.size w w1 := by rw [hw1]; exact (Below.refl _ _).alloc (Nat.le_refl _) _
  have hz1 : w1.heap.size = w.heap.size + 1 := by rw [hw1]; simp
  have hx1 : s.Box w1 w.heap.size := by rw [hw1]; exact StIn.Box.new s w
  rw [← hw1]
  clear hw1
  have HX1 : Hid (s.Box w1 w.heap.size) := hx1
  have HS1 : Hid (s.In w1) := HS.out.later hb1
  obtain ⟨e0, e1, e2, e3, e4, e5, e6, e7, e8, e9, e10, e11, e12⟩ := hx1
  go_wp2_with fail
  refine (bytes12 s a b w1 HS1.out).mono ?_
  rintro e w2 ⟨p, rfl, hb12⟩
  have hb2 : Below w.heap.size w w2 := hb1.trans (hb12.mono (by omega))
  clear e0 e1 e2 e3 e4 e5 e6 e7 e8 e9 e10 e11 e12
  cases p
  · go_wp2_with fail
    go_ret
    exact ⟨rfl, hb2⟩
  have hx2 : s.Box w2 w.heap.size := HX1.out.later hb12 (by omega)
  have HX2 : Hid (s.Box w2 w.heap.size) := hx2
  have HS2 : Hid (s.In w2) := HS.out.later hb2
  have hz2 : w.heap.size + 1 ≤ w2.heap.size := by have := hb12.size; omega
  clear hb12 HX1 HS1 hb1 hz1
  obtain ⟨e0, e1, e2, e3, e4, e5, e6, e7, e8, e9, e10, e11, e12⟩ := hx2
  go_wp2_with fail
  refine (fits13 s w2 HS2.out).mono ?_
  rintro e w3 ⟨p, rfl, hfit, hb23⟩
  have HFIT : Hid (p = true → s.Fits) := hfit
  have hb3 : Below w.heap.size w w3 := hb2.trans (hb23.mono (by omega))
  clear e0 e1 e2 e3 e4 e5 e6 e7 e8 e9 e10 e11 e12 hfit
  cases p
  · go_wp2_with fail
    go_ret
    exact ⟨rfl, hb3⟩
  have hx3 : s.Box w3 w.heap.size := HX2.out.later hb23 (by omega)
  have HX3 : Hid (s.Box w3 w.heap.size) := hx3
  have HS3 : Hid (s.In w3) := HS.out.later hb3
  have hz3 : w.heap.size + 1 ≤ w3.heap.size := by have := hb23.size; omega
  have HFT : Hid s.Fits := HFIT.out rfl
  clear hb23 HX2 HS2 hb2 hz2 HFIT
  obtain ⟨e0, e1, e2, e3, e4, e5, e6, e7, e8, e9, e10, e11, e12⟩ := hx3
  go_wp2_with fail
  refine (state14 s w3 HFT.out HS3.out).mono ?_
  rintro e w4 ⟨o0, rfl, hcopy, hown, hlaid, hb34⟩
  have HCP0 : Hid (o0.Copy s) := hcopy
  have HOW0 : Hid (o0.Own w4) := hown
  clear hcopy hown hlaid e0 e1 e2 e3 e4 e5 e6 e7 e8 e9 e10 e11 e12
  simp only [StOwn.val]
  go_upto_region 6 with fail
  obtain ⟨w5, hw5⟩ : ∃ w5 : World, w5 = w4.alloc (.cells #[.int .i64 o0.cur, .int .i64 o0.last, .bool o0.dec, .slice o0.U.a o0.U.n o0.U.n, .slice o0.D.a o0.D.n o0.D.n, .slice o0.C.a o0.C.n o0.C.n, .int .i64 o0.bef, .int .i64 o0.idle, .slice o0.R.a o0.R.n o0.R.n, .int .i64 o0.bst, .bool o0.bur, .int .i64 o0.lost, .bool o0.isl] 37) := ⟨_, rfl⟩
  have hb45 : Below w4.heap.size w4 w5 := by rw [hw5]; exact (Below.refl _ _).alloc (Nat.le_refl _) _
  have HAT0 : Hid (o0.At w5 w4.heap.size) := by rw [hw5]; exact StOwn.At.new o0 w4
  have hz5 : w5.heap.size = w4.heap.size + 1 := by rw [hw5]; simp
  rw [← hw5]
  clear hw5
  have HOW05 : Hid (o0.Own w5) := HOW0.out.below hb45
  have hz4 : w3.heap.size ≤ w4.heap.size := hb34.size
  have hb5 : Below w.heap.size w w5 := (hb3.trans (hb34.mono (by omega))).trans (hb45.mono (by omega))
  have hx5 : s.Box w5 w.heap.size := (HX3.out.later hb34 (by omega)).later hb45 (by omega)
  have HX5 : Hid (s.Box w5 w.heap.size) := hx5
  have HS5 : Hid (s.In w5) := HS.out.later hb5
  clear hb34 hb45 HOW0 HX3 HS3
  obtain ⟨e0, e1, e2, e3, e4, e5, e6, e7, e8, e9, e10, e11, e12⟩ := hx5
  go_wp2_with fail
  refine (state14 s w5 HFT.out HS5.out).mono ?_
  rintro e w6 ⟨o1, rfl, hcopy, hown, hlaid, hb56⟩
  have HCP1 : Hid (o1.Copy s) := hcopy
  have HOW1 : Hid (o1.Own w6) := hown
  have HLD1 : Hid (o1.Laid w5.heap.size w6.heap.size) := hlaid
  clear hcopy hown hlaid e0 e1 e2 e3 e4 e5 e6 e7 e8 e9 e10 e11 e12
  simp only [StOwn.val]
  go_upto_region 7 with fail
  obtain ⟨w7, hw7⟩ : ∃ w7 : World, w7 = w6.alloc (.cells #[.int .i64 o1.cur, .int .i64 o1.last, .bool o1.dec, .slice o1.U.a o1.U.n o1.U.n, .slice o1.D.a o1.D.n o1.D.n, .slice o1.C.a o1.C.n o1.C.n, .int .i64 o1.bef, .int .i64 o1.idle, .slice o1.R.a o1.R.n o1.R.n, .int .i64 o1.bst, .bool o1.bur, .int .i64 o1.lost, .bool o1.isl] 37) := ⟨_, rfl⟩
  have hb67 : Below w6.heap.size w6 w7 := by rw [hw7]; exact (Below.refl _ _).alloc (Nat.le_refl _) _
  have HAT1 : Hid (o1.At w7 w6.heap.size) := by rw [hw7]; exact StOwn.At.new o1 w6
  have hz7 : w7.heap.size = w6.heap.size + 1 := by rw [hw7]; simp
  rw [← hw7]
  clear hw7
  have HOW17 : Hid (o1.Own w7) := HOW1.out.below hb67
  have hz6 : w5.heap.size ≤ w6.heap.size := hb56.size
  have hb57 : Below w5.heap.size w5 w7 := hb56.trans (hb67.mono (by omega))
  clear hb56 hb67 HOW1
  go_wp2_with fail
  refine (shift15 o1 w6.heap.size w5.heap.size w6.heap.size a w7 HAT1.out HOW17.out HLD1.out (Nat.le_refl _) ?_).mono ?_
  · obtain ⟨_, _, _, u, dd, c, _, _, r, _⟩ := HCP1.out
    obtain ⟨f1, f2, f3, f4, _⟩ := HFT.out
    show o1.U.n ≤ 65536 ∧ o1.D.n ≤ 65536 ∧ o1.C.n ≤ 65536 ∧ o1.R.n ≤ 65536
    rw [u.1, dd.1, c.1, r.1]
    exact ⟨f1, f2, f3, f4⟩
  rintro e w8 ⟨rfl, hat8, hown8, hk8⟩
  have HAT8 : Hid ((o1.shift a).At w8 w6.heap.size) := hat8
  have HOW8 : Hid ((o1.shift a).Own w8) := hown8
  have hb58 : Below w5.heap.size w5 w8 := hb57.trans (hk8.below w5.heap.size (by omega) (fun k hk => by rcases hk with hk | hk <;> omega))
  clear hat8 hown8 hk8 hb57 HOW17 HAT1
  go_wp2_with fail
  refine (shift15 (o1.shift a) w6.heap.size w5.heap.size w6.heap.size b w8 HAT8.out HOW8.out (by exact HLD1.out) (Nat.le_refl _) ?_).mono ?_
  · obtain ⟨_, _, _, u, dd, c, _, _, r, _⟩ := HCP1.out
    obtain ⟨f1, f2, f3, f4, _⟩ := HFT.out
    show o1.U.n ≤ 65536 ∧ o1.D.n ≤ 65536 ∧ o1.C.n ≤ 65536 ∧ o1.R.n ≤ 65536
    rw [u.1, dd.1, c.1, r.1]
    exact ⟨f1, f2, f3, f4⟩
  rintro e w9 ⟨rfl, hat9, hown9, hk9⟩
  have HAT9 : Hid (((o1.shift a).shift b).At w9 w6.heap.size) := hat9
  have HOW9 : Hid (((o1.shift a).shift b).Own w9) := hown9
  have hz9 : w8.heap.size ≤ w9.heap.size := hk9.size
  have hb59 : Below w5.heap.size w5 w9 := hb58.trans (hk9.below w5.heap.size hb58.size (fun k hk => by rcases hk with hk | hk <;> omega))
  clear hat9 hown9 hk9 hb58 HAT8 HOW8
  have hb9 : Below w.heap.size w w9 := hb5.trans (hb59.mono (by omega))
  have hlt9 : w6.heap.size < w9.heap.size := World.rowIs.lt HAT9.out
  have hx9 : s.Box w9 w.heap.size := HX5.out.later hb59 (by omega)
  have HX9 : Hid (s.Box w9 w.heap.size) := hx9
  have HS9 : Hid (s.In w9) := HS.out.later hb9
  have HAT09 : Hid (o0.At w9 w4.heap.size) := World.rowIs.of_block HAT0.out (hb59.block _ (by omega))
  have HOW09 : Hid (o0.Own w9) := HOW05.out.below hb59
  clear HAT0 HOW05 hb59 HX5 HS5 hb5
  obtain ⟨e0, e1, e2, e3, e4, e5, e6, e7, e8, e9, e10, e11, e12⟩ := hx9
  go_wp2_with fail
  refine (state14 s w9 HFT.out HS9.out).mono ?_
  rintro e w10 ⟨o2, rfl, hcopy, hown, hlaid, hb910⟩
  have HCP2 : Hid (o2.Copy s) := hcopy
  have HOW2 : Hid (o2.Own w10) := hown
  have HLD2 : Hid (o2.Laid w9.heap.size w10.heap.size) := hlaid
  clear hcopy hown hlaid e0 e1 e2 e3 e4 e5 e6 e7 e8 e9 e10 e11 e12
  simp only [StOwn.val]
  go_upto_region 10 with fail
  obtain ⟨w11, hw11⟩ : ∃ w11 : World, w11 = w10.alloc (.cells #[.int .i64 o2.cur, .int .i64 o2.last, .bool o2.dec, .slice o2.U.a o2.U.n o2.U.n, .slice o2.D.a o2.D.n o2.D.n, .slice o2.C.a o2.C.n o2.C.n, .int .i64 o2.bef, .int .i64 o2.idle, .slice o2.R.a o2.R.n o2.R.n, .int .i64 o2.bst, .bool o2.bur, .int .i64 o2.lost, .bool o2.isl] 37) := ⟨_, rfl⟩
  have hb1011 : Below w10.heap.size w10 w11 := by rw [hw11]; exact (Below.refl _ _).alloc (Nat.le_refl _) _
  have HAT2 : Hid (o2.At w11 w10.heap.size) := by rw [hw11]; exact StOwn.At.new o2 w10
  have hz11 : w11.heap.size = w10.heap.size + 1 := by rw [hw11]; simp
  rw [← hw11]
  clear hw11
  have HOW211 : Hid (o2.Own w11) := HOW2.out.below hb1011
  have hz10 : w9.heap.size ≤ w10.heap.size := hb910.size
  have hb911 : Below w9.heap.size w9 w11 := hb910.trans (hb1011.mono (by omega))
  clear hb910 hb1011 HOW2
  go_wp2_with fail
  refine (shift15 o2 w10.heap.size w9.heap.size w10.heap.size (wrap64 (a + b)) w11 HAT2.out HOW211.out HLD2.out (Nat.le_refl _) ?_).mono ?_
  · obtain ⟨_, _, _, u, dd, c, _, _, r, _⟩ := HCP2.out
    obtain ⟨f1, f2, f3, f4, _⟩ := HFT.out
    show o2.U.n ≤ 65536 ∧ o2.D.n ≤ 65536 ∧ o2.C.n ≤ 65536 ∧ o2.R.n ≤ 65536
    rw [u.1, dd.1, c.1, r.1]
    exact ⟨f1, f2, f3, f4⟩
  rintro e w12 ⟨rfl, hat12, hown12, hk12⟩
  have hb912 : Below w9.heap.size w9 w12 := hb911.trans (hk12.below w9.heap.size (by omega) (fun k hk => by rcases hk with hk | hk <;> omega))
  have HAL : Hid (((o1.shift a).shift b).Alike (o2.shift (wrap64 (a + b)))) := alike_shift o1 o2 s a b HCP1.out HCP2.out HFT.out
  have HRT : Hid (∀ j, j < o0.R.n → (((o1.shift a).shift b).R.B j).n = (o0.R.B j).n ∧ lastOf (((o1.shift a).shift b).R.F j) (((o1.shift a).shift b).R.E j) (((o1.shift a).shift b).R.B j).n = wrap64 (wrap64 (lastOf (o0.R.F j) (o0.R.E j) (o0.R.B j).n + a) + b)) := fun j hj => runs_two o1 o0 s a b HCP1.out HCP0.out j hj
  have HRN : Hid (((o1.shift a).shift b).R.n = o0.R.n ∧ o0.R.n ≤ 65536 ∧ ∀ j, j < o0.R.n → (o0.R.B j).n ≤ 1048576) := by
    have c0 := HCP0.out.2.2.2.2.2.2.2.2.1
    have c1 := HCP1.out.2.2.2.2.2.2.2.2.1
    refine ⟨?_, ?_, fun j hj => ?_⟩
    · show o1.R.n = o0.R.n
      rw [c0.1, c1.1]
    · rw [c0.1]; exact HFT.out.2.2.2.1
    · rw [c0.1] at hj
      rw [(c0.2.2.2.2.2 j hj).1]; exact HFT.out.2.2.2.2 j hj
  have HLS : Hid (((o1.shift a).shift b).last = wrap64 (wrap64 (s.last + a) + b)) := by
    show wrap64 (wrap64 (o1.last + a) + b) = _
    rw [HCP1.out.2.1]
  have HX12 : Hid (s.Box w12 w.heap.size) := HX9.out.later hb912 (by omega)
  have HAT0 : Hid (o0.At w12 w4.heap.size) := World.rowIs.of_block HAT09.out (hb912.block _ (by omega))
  have HOW0 : Hid (o0.Own w12) := HOW09.out.below hb912
  have HAT1 : Hid (((o1.shift a).shift b).At w12 w6.heap.size) := World.rowIs.of_block HAT9.out (hb912.block _ hlt9)
  have HOW1 : Hid (((o1.shift a).shift b).Own w12) := HOW9.out.below hb912
  have HAT2' : Hid ((o2.shift (wrap64 (a + b))).At w12 w10.heap.size) := hat12
  have HOW2' : Hid ((o2.shift (wrap64 (a + b))).Own w12) := hown12
  have hb12 : Below w.heap.size w w12 := hb9.trans (hb912.mono hb9.size)
  have hzz : w.heap.size < w12.heap.size ∧ w4.heap.size < w12.heap.size ∧ w6.heap.size < w12.heap.size := by
    have := hb912.size
    omega
  clear hat12 hown12 hk12 hb911 HOW211 HAT2 HLD2 HLD1 HCP1 HCP2 HCP0 HFT hb912 HX9 HS9 HAT09 HOW09 HAT9 HOW9 hb9 hz10 hz11 hlt9 hz9 hz6 hz7 hz5 hz4 hz3 hb3
  generalize (o1.shift a).shift b = X at *
  generalize o2.shift (wrap64 (a + b)) = Y at *
  generalize w4.heap.size = b0 at *
  generalize w6.heap.size = b1 at *
  generalize w10.heap.size = b2 at *
  clear HS
  have c1 := HAT1.out.cells
  have c2 := HAT2'.out.cells
  obtain ⟨x0, x1, x2, x3, x4, x5, x6, x7, x8, x9, x10, x11, x12⟩ := c1
  obtain ⟨y0, y1, y2, y3, y4, y5, y6, y7, y8, y9, y10, y11, y12⟩ := c2
  go_wp2_with fail
  refine (states16_alike X Y w12 HOW1.out HOW2'.out HAL.out).mono ?_
  rintro e w13 ⟨rfl, hb13⟩
  have e1 : w13.cell? ⟨w.heap.size, 1, none⟩ = some (.int .i64 s.last) := cell_later hb13 HX12.out.2.1
  rw [HLS.out] at x1
  rw [HRN.out.1] at x8
  have z1 : w13.cell? ⟨b1, 1, none⟩ = some (.int .i64 (wrap64 (wrap64 (s.last + a) + b))) := cell_later hb13 x1
  have z8 : w13.cell? ⟨b1, 8, none⟩ = some (.slice X.R.a o0.R.n o0.R.n) := cell_later hb13 x8
  have t8 : w13.cell? ⟨b0, 8, none⟩ = some (.slice o0.R.a o0.R.n o0.R.n) := cell_later hb13 HAT0.out.cells.2.2.2.2.2.2.2.2.1
  have HO0 : Hid (o0.R.Own w13) := HOW0.out.2.2.2.below hb13
  have HO1 : Hid (X.R.Own w13) := HOW1.out.2.2.2.below hb13
  have hb : Below w.heap.size w w13 := hb12.trans (hb13.mono hb12.size)
  clear x0 x1 x2 x3 x4 x5 x6 x7 x8 x9 x10 x11 x12 y0 y1 y2 y3 y4 y5 y6 y7 y8 y9 y10 y11 y12 HAT0 HAT1 HAT2' HOW0 HOW1 HOW2' HAL HX12 HLS hb13 hb12 hzz
  have HRL : Hid (∀ j, j < o0.R.n → (X.R.B j).n ≤ 1048576 ∧ (o0.R.B j).n ≤ 1048576 ∧ lastOf (X.R.F j) (X.R.E j) (X.R.B j).n = wrap64 (wrap64 (lastOf (o0.R.F j) (o0.R.E j) (o0.R.B j).n + a) + b)) := fun j hj => ⟨by rw [(HRT.out j hj).1]; exact HRN.out.2.2 j hj, HRN.out.2.2 j hj, (HRT.out j hj).2⟩
  have hn16 : o0.R.n ≤ 65536 := HRN.out.2.1
  have hrn : Hid (X.R.n = o0.R.n) := HRN.out.1
  clear HRT HRN
  generalize o0.R = r0 at *
  generalize X.R = r1 at *
  go_wp2_with fail
  go_loopw [10] (fun i wr => ∃ k : Nat, k ≤ r0.n ∧ i = .int .i64 k ∧ Below w13.heap.size w13 wr) (fun i _ => r0.n - (intOf i).toNat)
  case atStart => exact ⟨0, Nat.zero_le _, rfl, Below.refl _ _⟩
  case round =>
    obtain ⟨k, hk, rfl, hbel⟩ := hrel
    by_cases hlt : k < r0.n
    · obtain ⟨a1, row1⟩ := HO1.out.row (by rw [hrn.out]; omega)
      obtain ⟨a0, row0⟩ := HO0.out.row (by omega)
      obtain ⟨u0, u1, u2, u3⟩ := runCells row1 k (by rw [hrn.out]; exact hlt)
      obtain ⟨v0, v1, v2, v3⟩ := runCells row0 k hlt
      rw [a1] at z8
      rw [a0] at t8
      have HSL : Hid (∀ w', Below w13.heap.size w13 w' → w'.cell? ⟨b1, 8, none⟩ = some (.slice (some ⟨r1.g, 0, none⟩) r0.n r0.n) ∧ w'.cell? ⟨b0, 8, none⟩ = some (.slice (some ⟨r0.g, 0, none⟩) r0.n r0.n) ∧ w'.cell? ⟨r1.g, k * 4, none⟩ = some (.int .i64 (r1.S k)) ∧ w'.cell? ⟨r1.g, k * 4 + 1, none⟩ = some (.int .i64 (r1.F k)) ∧ w'.cell? ⟨r1.g, k * 4 + 2, none⟩ = some (.int .i64 (r1.E k)) ∧ w'.cell? ⟨r1.g, k * 4 + 3, none⟩ = some (.slice (r1.B k).a (r1.B k).n (r1.B k).n) ∧ w'.cell? ⟨r0.g, k * 4, none⟩ = some (.int .i64 (r0.S k)) ∧ w'.cell? ⟨r0.g, k * 4 + 1, none⟩ = some (.int .i64 (r0.F k)) ∧ w'.cell? ⟨r0.g, k * 4 + 2, none⟩ = some (.int .i64 (r0.E k)) ∧ w'.cell? ⟨r0.g, k * 4 + 3, none⟩ = some (.slice (r0.B k).a (r0.B k).n (r0.B k).n)) :=
        fun w' h => ⟨cell_later h z8, cell_later h t8, cell_later h u0, cell_later h u1, cell_later h u2, cell_later h u3, cell_later h v0, cell_later h v1, cell_later h v2, cell_later h v3⟩
      clear z8 t8 u0 u1 u2 u3 v0 v1 v2 v3 row1 row0 a1 a0 e1 z1
      obtain ⟨z8, t8, u0, u1, u2, u3, v0, v1, v2, v3⟩ := HSL.out wr hbel
      obtain ⟨m1, m0, hle⟩ := HRL.out k hlt
      have HLE : Hid (lastOf (r1.F k) (r1.E k) (r1.B k).n = IntKind.i64.wrap (IntKind.i64.wrap (lastOf (r0.F k) (r0.E k) (r0.B k).n + a) + b)) := by rw [wrapEq, wrapEq]; exact hle
      clear hle
      have i0 : (0 : Int) ≤ (k : Int) := by omega
      have i1 : (k : Int) < (r0.n : Int) := by omega
      go_wp2_with fail
      go_region_held3 (fun w' => w'.cell? ⟨b1, 8, none⟩ = some (.slice (some ⟨r1.g, 0, none⟩) r0.n r0.n) ∧ w'.cell? ⟨b0, 8, none⟩ = some (.slice (some ⟨r0.g, 0, none⟩) r0.n r0.n) ∧ w'.cell? ⟨r1.g, k * 4, none⟩ = some (.int .i64 (r1.S k)) ∧ w'.cell? ⟨r1.g, k * 4 + 1, none⟩ = some (.int .i64 (r1.F k)) ∧ w'.cell? ⟨r1.g, k * 4 + 2, none⟩ = some (.int .i64 (r1.E k)) ∧ w'.cell? ⟨r1.g, k * 4 + 3, none⟩ = some (.slice (r1.B k).a (r1.B k).n (r1.B k).n) ∧ w'.cell? ⟨r0.g, k * 4, none⟩ = some (.int .i64 (r0.S k)) ∧ w'.cell? ⟨r0.g, k * 4 + 1, none⟩ = some (.int .i64 (r0.F k)) ∧ w'.cell? ⟨r0.g, k * 4 + 2, none⟩ = some (.int .i64 (r0.E k)) ∧ w'.cell? ⟨r0.g, k * 4 + 3, none⟩ = some (.slice (r0.B k).a (r0.B k).n (r0.B k).n)) (first | go_keep | (exact hS15.out) | (exact hS14.out)) ((first
        | (go_at_call_of 17 ((r1.B k).a); go_must (refine (last17 _ _ _ _ _ _ _ m1).mono ?_); go_must (rintro e w14 ⟨he, hh14⟩); go_must (rw [HLE.out] at he; subst he); go_must (have hb14 : Below w13.heap.size w13 w14 := hbel.trans (((Below.refl wr.heap.size wr).drew.trans hh14).mono hbel.size)); clear hh14; have hS14 : Hid _ := HSL.out w14 hb14)
        | (go_at_call_of 17 ((r0.B k).a); go_must (refine (last17 _ _ _ _ _ _ _ m0).mono ?_); go_must (rintro e w15 ⟨rfl, hh15⟩); go_must (have hb15 : Below w13.heap.size w13 w15 := hb14.trans (hh15.mono hb14.size)); clear hh15; have hS15 : Hid _ := HSL.out w15 hb15)))
      have hbel2 : Below w13.heap.size w13 w15 := hb15
      clear z8 t8 u0 u1 u2 u3 v0 v1 v2 v3 hS14 hS15 hb14 hb15
      go_wp2_with fail
      go_roundw
      case rel => exact ⟨k + 1, by omega, by go_num, hbel2⟩
      case measure => simp [intOf]; omega
    · obtain rfl : k = r0.n := by omega
      have z8' := cell_later hbel z8
      go_wp2_with fail
      go_ret
      exact ⟨rfl, hb.trans (hbel.mono hb.size)⟩
end Go.Proofs.Qxb6605212a
