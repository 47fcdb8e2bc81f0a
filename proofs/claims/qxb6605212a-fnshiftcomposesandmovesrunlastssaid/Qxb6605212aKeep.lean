/- FnShiftKeepsWhatRateLimitsRead, walked. -/
import Derived.Test.Qxb6605212aFit
import Derived.Test.Qxb6605212aAtWalk
set_option linter.unusedVariables false
namespace Go.Proofs.Qxb6605212a
open Go.RowKit
attribute [local go_sem] run_store_flt

theorem since_both (a b d : Int) : since (wrap64 (a + d)) (wrap64 (b + d)) = since a b := by
  refine since_shift a b _ _ ?_
  unfold wrap64
  omega

theorem scan_congr (T T' N : Nat → Int) (bf t t' : Int) (pe n : Nat) (h : ∀ j, j < n → since (T' j) t' = since (T j) t) : scan T' N bf t' pe n = scan T N bf t pe n := by
  induction n with
  | zero => rfl
  | succ n ih =>
    simp only [scan]
    rw [h n (by omega), ih (fun j hj => h j (by omega))]

theorem POwn.Own.pts {p : POwn} {w : World} (h : p.Own w) : Qxb6605212a.pts w p.g 0 p.n p.T p.N ∧ (0 < p.n → p.a = some ⟨p.g, 0, none⟩) := by
  rcases h with ⟨h1, h2⟩ | ⟨h1, h2⟩
  · exact ⟨fun j hj => by omega, fun h => by omega⟩
  · exact ⟨pts_copied h2, fun _ => h1⟩

/-- the box of the argument -/
def StIn.Box (s : StIn) (w : World) (b : Nat) : Prop := cells13 w b (.int .i64 s.cur) (.int .i64 s.last) (.bool s.dec) (.slice s.U.a s.U.n s.U.c) (.slice s.D.a s.D.n s.D.c) (.slice s.C.a s.C.n s.C.c) (.int .i64 s.bef) (.int .i64 s.idle) (.slice s.R.a s.R.n s.R.c) (.int .i64 s.bst) (.bool s.bur) (.int .i64 s.lost) (.bool s.isl)
theorem StIn.Box.new (s : StIn) (w : World) : s.Box (w.alloc (.cells #[.int .i64 s.cur, .int .i64 s.last, .bool s.dec, .slice s.U.a s.U.n s.U.c, .slice s.D.a s.D.n s.D.c, .slice s.C.a s.C.n s.C.c, .int .i64 s.bef, .int .i64 s.idle, .slice s.R.a s.R.n s.R.c, .int .i64 s.bst, .bool s.bur, .int .i64 s.lost, .bool s.isl] 32)) w.heap.size := by simp [StIn.Box, cells13]
theorem StIn.Box.later {s : StIn} {w w' : World} {b : Nat} (h : s.Box w b) (hb : Below w.heap.size w w') (hlt : b < w.heap.size) : s.Box w' b := cells13.later h (hb.block b hlt)

set_option maxHeartbeats 4000000 in
theorem keep_law (s : StIn) (t : Int) (pe : Nat) (d : Int) (w : World) (h : s.In w) (hn : s.C.n ≤ maxLen) (ht : -9223372036854775808 ≤ t ∧ t ≤ 9223372036854775807) (hT : ∀ j, j < s.C.n → -9223372036854775808 ≤ s.C.T j ∧ s.C.T j ≤ 9223372036854775807) :
    Calls Try.prog 5 #[s.val, .int .i64 t, .float .f64 pe, .int .i64 d] w fun e w' => e = .returned (.bool true) ∧ Below w.heap.size w w' := by
  have HS : Hid (s.In w) := h
  obtain ⟨HM, HT, HH⟩ : Hid (s.C.n ≤ maxLen) ∧ Hid (-9223372036854775808 ≤ t ∧ t ≤ 9223372036854775807) ∧ Hid (∀ j, j < s.C.n → -9223372036854775808 ≤ s.C.T j ∧ s.C.T j ≤ 9223372036854775807) := ⟨hn, ht, hT⟩
  unfold maxLen at hn
  clear h ht hT
  simp only [StIn.val]
  go_enter Try.func5, Try.ntmps5
  go_upto_region 1 with fail
  obtain ⟨w1, hw1⟩ : ∃ w1 : World, w1 = w.alloc (.cells #[.int .i64 s.cur, .int .i64 s.last, .bool s.dec, .slice s.U.a s.U.n s.U.c, .slice s.D.a s.D.n s.D.c, .slice s.C.a s.C.n s.C.c, .int .i64 s.bef, .int .i64 s.idle, .slice s.R.a s.R.n s.R.c, .int .i64 s.bst, .bool s.bur, .int .i64 s.lost, .bool s.isl] 32) := ⟨_, rfl⟩
  have hb1 : Below w.heap.size w w1 := by rw [hw1]; exact (Below.refl _ _).alloc (Nat.le_refl _) _
  have hz1 : w1.heap.size = w.heap.size + 1 := by rw [hw1]; simp
  have hx1 : s.Box w1 w.heap.size := by rw [hw1]; exact StIn.Box.new s w
  rw [← hw1]
  clear hw1
  have HX1 : Hid (s.Box w1 w.heap.size) := hx1
  have HS1 : Hid (s.In w1) := HS.out.later hb1
  obtain ⟨e0, e1, e2, e3, e4, e5, e6, e7, e8, e9, e10, e11, e12⟩ := hx1
  go_wp2_with fail
  refine (bytes18 s t pe d w1 HS1.out).mono ?_
  rintro e w2 ⟨p, rfl, hb12⟩
  have hb2 : Below w.heap.size w w2 := hb1.trans (hb12.mono (by omega))
  clear e0 e1 e2 e3 e4 e5 e6 e7 e8 e9 e10 e11 e12
  cases p
  · go_wp2_with fail
    go_ret
    exact ⟨rfl, hb2⟩
  have hx2 : s.Box w2 w.heap.size := HX1.out.later hb12 (by omega)
  have HX2 : Hid (s.Box w2 w.heap.size) := hx2
  have HS2 : Hid (s.In w2) := HS.out.later hb2
  have hz2 : w.heap.size + 1 ≤ w2.heap.size := by have := hb12.size; omega
  clear hb12 HX1 HS1 hb1 hz1
  obtain ⟨e0, e1, e2, e3, e4, e5, e6, e7, e8, e9, e10, e11, e12⟩ := hx2
  go_wp2_with fail
  refine (fits13 s w2 HS2.out).mono ?_
  rintro e w3 ⟨p, rfl, hfit, hb23⟩
  have HFIT : Hid (p = true → s.Fits) := hfit
  have hb3 : Below w.heap.size w w3 := hb2.trans (hb23.mono (by omega))
  clear e0 e1 e2 e3 e4 e5 e6 e7 e8 e9 e10 e11 e12 hfit
  cases p
  · go_wp2_with fail
    go_ret
    exact ⟨rfl, hb3⟩
  have hx3 : s.Box w3 w.heap.size := HX2.out.later hb23 (by omega)
  have HX3 : Hid (s.Box w3 w.heap.size) := hx3
  have HS3 : Hid (s.In w3) := HS.out.later hb3
  have hz3 : w.heap.size + 1 ≤ w3.heap.size := by have := hb23.size; omega
  have HFT : Hid s.Fits := HFIT.out rfl
  clear hb23 HX2 HS2 hb2 hz2 HFIT
  obtain ⟨e0, e1, e2, e3, e4, e5, e6, e7, e8, e9, e10, e11, e12⟩ := hx3
  go_wp2_with fail
  refine (domain8 s.C.a s.C.b s.C.o s.C.n s.C.c s.C.T s.C.N t w3 HM.out HS3.out.2.2.1.1 HS3.out.2.2.1.2.2).mono ?_
  rintro e w4 ⟨p, rfl, hdom, k4, hw4⟩
  have hb34 : Below w3.heap.size w3 w4 := by rw [hw4]; exact below_drewN (Below.refl _ _) _
  have hb4 : Below w.heap.size w w4 := hb3.trans (hb34.mono (by omega))
  have HD : Hid (p = true → ∀ j, j < s.C.n → s.C.T j ≤ t ∧ (0 < j → s.C.T (j - 1) ≤ s.C.T j)) := hdom
  clear e0 e1 e2 e3 e4 e5 e6 e7 e8 e9 e10 e11 e12 hdom hw4
  cases p
  · go_wp2_with fail
    go_ret
    exact ⟨rfl, hb4⟩
  have hx4 : s.Box w4 w.heap.size := HX3.out.later hb34 (by omega)
  have HX4 : Hid (s.Box w4 w.heap.size) := hx4
  have HS4 : Hid (s.In w4) := HS.out.later hb4
  have hz4 : w.heap.size + 1 ≤ w4.heap.size := by have := hb34.size; omega
  have HMO : Hid (∀ j k, j ≤ k → k < s.C.n → fgeq (since (s.C.T k) t) pe = true → fgeq (since (s.C.T j) t) pe = true) := mono_of_domain s.C.T t s.C.n pe HT.out HH.out (HD.out rfl)
  clear hb34 HX3 HS3 hb3 hz3 HD HT HH
  obtain ⟨e0, e1, e2, e3, e4, e5, e6, e7, e8, e9, e10, e11, e12⟩ := hx4
  go_wp2_with fail
  refine (model11 s.C.a s.C.b s.C.o s.C.n s.C.c s.C.T s.C.N s.bef t pe w4 HFT.out.2.2.1 HS4.out.2.2.1.1 HS4.out.2.2.1.2.2).mono ?_
  rintro e w4' ⟨rfl, hw4⟩
  obtain rfl := hw4.symm
  clear hw4
  go_wp2_with fail
  refine (state14 s w4 HFT.out HS4.out).mono ?_
  rintro e w5 ⟨o, rfl, hcopy, hown, hlaid, hb45⟩
  have HCP : Hid (o.Copy s) := hcopy
  have HOW : Hid (o.Own w5) := hown
  have HLD : Hid (o.Laid w4.heap.size w5.heap.size) := hlaid
  have hb5 : Below w.heap.size w w5 := hb4.trans (hb45.mono (by omega))
  clear e0 e1 e2 e3 e4 e5 e6 e7 e8 e9 e10 e11 e12 hcopy hown hlaid
  simp only [StOwn.val]
  go_wp2_with fail
  have hw6 : Below w5.heap.size w5 (w5.alloc (.cells #[.int .i64 o.cur, .int .i64 o.last, .bool o.dec, .slice o.U.a o.U.n o.U.n, .slice o.D.a o.D.n o.D.n, .slice o.C.a o.C.n o.C.n, .int .i64 o.bef, .int .i64 o.idle, .slice o.R.a o.R.n o.R.n, .int .i64 o.bst, .bool o.bur, .int .i64 o.lost, .bool o.isl] 37)) := (Below.refl _ _).alloc (Nat.le_refl _) _
  have hat6 := StOwn.At.new o w5
  refine (shift15 o w5.heap.size w4.heap.size w5.heap.size d _ hat6 (HOW.out.below hw6) HLD.out (Nat.le_refl _) ?_).mono ?_
  · obtain ⟨_, _, _, u, dd, c, _, _, r, _⟩ := HCP.out
    obtain ⟨f1, f2, f3, f4, _⟩ := HFT.out
    rw [u.1, dd.1, c.1, r.1]
    exact ⟨f1, f2, f3, f4⟩
  rintro e w7 ⟨rfl, hat7, hown7, hk7⟩
  have c7 := hat7.cells
  obtain ⟨y0, y1, y2, y3, y4, y5, y6, y7, y8, y9, y10, y11, y12⟩ := c7
  have y5' : w7.cell? ⟨w5.heap.size, 5, none⟩ = some (.slice o.C.a o.C.n o.C.n) := y5
  have y6' : w7.cell? ⟨w5.heap.size, 6, none⟩ = some (.int .i64 o.bef) := y6
  have hb7 : Below w.heap.size w w7 := by
    have h1 : Below w.heap.size w (w5.alloc (.cells #[.int .i64 o.cur, .int .i64 o.last, .bool o.dec, .slice o.U.a o.U.n o.U.n, .slice o.D.a o.D.n o.D.n, .slice o.C.a o.C.n o.C.n, .int .i64 o.bef, .int .i64 o.idle, .slice o.R.a o.R.n o.R.n, .int .i64 o.bst, .bool o.bur, .int .i64 o.lost, .bool o.isl] 37)) := hb5.alloc (by have := hb5.size; omega) _
    exact h1.trans (hk7.below _ h1.size (fun k hk => by have := hb45.size; have := hb5.size; have := hb4.size; rcases hk with hk | hk <;> omega))
  have HOW7 : Hid ((o.shift d).Own w7) := hown7
  clear y0 y1 y2 y3 y4 y5 y6 y7 y8 y9 y10 y11 y12 hat7 hown7 hk7 hat6 hw6
  have HP7 := (HOW7.out.2.2.1).pts
  have HPP : Hid (Qxb6605212a.pts w7 o.C.g 0 o.C.n (fun j => wrap64 (o.C.T j + d)) o.C.N ∧ (0 < o.C.n → o.C.a = some ⟨o.C.g, 0, none⟩)) := HP7
  clear HP7
  go_wp2_with fail
  refine (changesAt10 pe o.bef o.C.a o.C.g 0 o.C.n o.C.n (fun j => wrap64 (o.C.T j + d)) o.C.N (wrap64 (t + d)) pe w7 ?_ HPP.out.2 HPP.out.1 ?_).mono ?_
  · obtain ⟨_, _, _, u, dd, c, _, _, r, _⟩ := HCP.out
    rw [c.1]; exact HFT.out.2.2.1
  · obtain ⟨_, _, _, u, dd, c, _, _, r, _⟩ := HCP.out
    intro j k hjk hk
    show fgeq (since (wrap64 (o.C.T k + d)) (wrap64 (t + d))) pe = true → fgeq (since (wrap64 (o.C.T j + d)) (wrap64 (t + d))) pe = true
    rw [since_both, since_both, c.2.1]
    exact HMO.out j k hjk (by rw [← c.1]; exact hk)
  rintro e w8 ⟨rfl, hb78⟩
  have hsc : scan (fun j => wrap64 (o.C.T j + d)) o.C.N o.bef (wrap64 (t + d)) pe o.C.n = scan s.C.T s.C.N s.bef t pe s.C.n := by
    obtain ⟨_, _, _, u, dd, c, hbf, _, r, _⟩ := HCP.out
    rw [scan_congr o.C.T _ o.C.N o.bef t (wrap64 (t + d)) pe o.C.n (fun j _ => since_both _ _ _), c.1, c.2.1, c.2.2.1, hbf]
  rw [hsc]
  have hb8 : Below w.heap.size w w8 := hb7.trans (hb78.mono hb7.size)
  clear hsc hb78 hb7
  go_wp2_with fail
  go_ret
  exact ⟨rfl, hb8⟩
end Go.Proofs.Qxb6605212a
