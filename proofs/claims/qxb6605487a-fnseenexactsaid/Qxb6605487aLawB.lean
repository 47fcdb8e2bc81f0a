/- FnSeenExact, walked. -/
import Derived.Test.Qxb6605487aLawA
import Derived.Lib.Builder
set_option linter.unusedVariables false
namespace Go.Proofs.Qxb6605487a
open Go.RowKit

theorem neq28 (w : World) (a : Addr) : (binOp .neq 28 (.pointer (some a)) (.pointer (some a))).run Try.prog w = .ok (.bool false) w := by
  obtain ⟨j, hj, _⟩ := Option.map_eq_some_iff.1 info5
  exact Lib.run_neq_ptr_same w a Try.underlying28 hj

set_option maxRecDepth 4000 in
set_option maxHeartbeats 4000000 in
theorem seen_law (z : Bool) (f : CIn) (w : World) (h : f.In w) :
    Calls Try.prog 5 #[.bool z, .slice f.a f.n f.c] w fun e w' => e = .returned (.bool true) ∧ Below w.heap.size w w' := by
  obtain ⟨a, n, c, b, o, V, D, C⟩ := f
  have HF : Hid (CIn.In ⟨a, n, c, b, o, V, D, C⟩ w) := h
  clear h
  simp only at *
  have q := fun w a n c => Lib.run_eql_slice_nil (P := Try.prog) w 22 5 a n c 0 0 Try.underlying22
  have q28 := neq28
  go_enter Try.func5, Try.ntmps5
  go_wp2_with fail
  refine (bytes11 z ⟨a, n, c, b, o, V, D, C⟩ w HF.out).mono ?_
  rintro e w1 ⟨p, rfl, hv, hb1⟩
  have HVN : Hid (p = true → ∀ j, j < n → (V j).n ≤ 1048576) := hv
  clear hv
  cases p
  · go_wp2_with fail
    go_ret
    exact ⟨rfl, hb1⟩
  by_cases hn : n ≤ 65536
  · go_wp2_with fail
    go_loopw [5, 6] (fun zz i wr => ∃ k : Nat, ∃ t : Nat, k ≤ n ∧ i = .int .i64 k ∧ zz = .int .i64 t ∧ t ≤ 1048576 ∧ wr = w1) (fun _ i _ => n - (intOf i).toNat)
    case atStart => exact ⟨0, 0, Nat.zero_le _, rfl, rfl, Nat.zero_le _, rfl⟩
    case round =>
      obtain ⟨k, t, hk, rfl, rfl, ht, hwr⟩ := hrel
      obtain rfl := hwr.symm
      clear hwr
      by_cases hlt : k < n
      · obtain rfl : a = some ⟨b, o, none⟩ := HF.out.1 (by show 0 < n; omega)
        have r1 : w1.cell? ⟨b, o + k * 3, none⟩ = some (.slice (V k).a (V k).n (V k).c) := cell_later hb1 (HF.out.2.2 k hlt).1
        have i0 : (0 : Int) ≤ (k : Int) := by omega
        have i1 : (k : Int) < (n : Int) := by omega
        have hvn : (V k).n ≤ 1048576 := HVN.out (by first | rfl | trivial) k hlt
        by_cases hs : t + (40 + (V k).n) ≤ 1048576
        · have hs' : (t : Int) + (40 + ((V k).n : Int)) ≤ 1048576 := by omega
          go_wp2_with fail
          go_roundw
          case rel => exact ⟨k + 1, t + (40 + (V k).n), by omega, by go_num, by go_num, hs, by first | rfl | trivial⟩
          case measure => simp [intOf]; omega
        · have hs' : ¬ (t : Int) + (40 + ((V k).n : Int)) ≤ 1048576 := by omega
          go_wp2_with fail
          go_ret
          exact ⟨rfl, hb1⟩
      · obtain rfl : k = n := by omega
        go_upto_if 44 with fail
        go_cut [7, 8] from 44 to 73 (fun v u w' => ∃ a' : Option Addr, ∃ g : Nat, ∃ A : Nat → Option Addr, v = .slice a' k k ∧ Hid (0 < k → a' = some ⟨g, 0, none⟩ ∧ g < w'.heap.size) ∧ Hid (Copied3 w' g k A (fun j => (V j).n) D C) ∧ Hid (∀ j, j < k → 0 < (V j).n → ∃ q : Addr, A j = some q ∧ q.spot = none) ∧ Hid (Below w.heap.size w w'))
        case first =>
          cases ha : a.isSome
          · have ha' : a = none := by cases a with | none => rfl | some x => simp at ha
            obtain ⟨h1, h2⟩ := HF.out.2.1 ha'
            have HK : Hid (k = 0) := h1
            clear h1 h2 ha'
            go_wp2_with fail
            go_meet
            case rel =>
              have h1 : k = 0 := HK.out
              exact ⟨none, 0, fun _ => none, by rw [h1], fun h => by omega, fun j hj => by omega, fun j hj => by omega, hb1⟩
          · have hmk := fun w => run_make_many (P := Try.prog) 31 35 _ 3 40 Try.underlying31 info35 k (by omega) (by omega) w
            go_wp2_with fail
            go_loopw [8] (fun i wr => ∃ m : Nat, ∃ A : Nat → Option Addr, m ≤ k ∧ i = .int .i64 m ∧ wr.rowIs w1.heap.size 35 (k * 3) (verCell A (fun j => (V j).n) D C m) ∧ Hid (∀ j, j < m → 0 < (V j).n → ∃ q : Addr, A j = some q ∧ q.spot = none) ∧ Below w1.heap.size w1 wr) (fun i _ => k - (intOf i).toNat)
            case atStart =>
              refine ⟨0, fun _ => none, Nat.zero_le _, rfl, ?_, fun j hj => by omega, (Below.refl _ _).alloc (Nat.le_refl _) _⟩
              refine (rowIs_made_many w1 _ (k * 3) 35).congr ?_
              intro i hi
              simp only [verCell, Nat.not_lt_zero, if_false]
              have hz : ∀ j, j < 3 → (#[Value.slice none 0 0, Value.bool false, Value.int .u64 0] : Array Value)[j]! = if j = 0 then Value.slice none 0 0 else if j = 1 then .bool false else .int .u64 0 := by
                intro j hj
                match j, hj with
                | 0, _ => rfl
                | 1, _ => rfl
                | 2, _ => rfl
              exact hz (i % 3) (Nat.mod_lt _ (by omega))
            case round =>
              obtain ⟨m, A, hm, rfl, hrow, HSP, hbl⟩ := hrel
              by_cases hlt2 : m < k
              · obtain rfl : a = some ⟨b, o, none⟩ := HF.out.1 (by show 0 < k; omega)
                have hbw : Below w.heap.size w wr := hb1.trans (hbl.mono hb1.size)
                obtain ⟨t0, t1, t2, t3, t4⟩ := HF.out.2.2 m hlt2
                have hltB : b < w.heap.size := World.block_lt_of_cell? _ _ t0
                have r0 : wr.cell? ⟨b, o + m * 3, none⟩ = some (.slice (V m).a (V m).n (V m).c) := cell_later hbw t0
                have r1 : wr.cell? ⟨b, o + m * 3 + 1, none⟩ = some (.bool (D m)) := cell_later hbw t1
                have r2 : wr.cell? ⟨b, o + m * 3 + 2, none⟩ = some (.int .u64 (C m)) := cell_later hbw t2
                have r3 : Hid ((V m).In wr) := BIn.In.later t3 hbw
                clear t0 t1 t2 t3 t4
                have i0 : (0 : Int) ≤ (m : Int) := by omega
                have i1 : (m : Int) < (k : Int) := by omega
                have hz1 : w.heap.size ≤ w1.heap.size := hb1.size
                have hne : ¬ b = w1.heap.size := by omega
                have hne2 : ¬ w1.heap.size = b := fun h => hne h.symm
                go_wp2_with fail
                go_region_held3 (fun w' => w'.cell? ⟨b, o + m * 3, none⟩ = some (.slice (V m).a (V m).n (V m).c) ∧ w'.cell? ⟨b, o + m * 3 + 1, none⟩ = some (.bool (D m)) ∧ w'.cell? ⟨b, o + m * 3 + 2, none⟩ = some (.int .u64 (C m))) (first | go_keep | (exact ⟨cell_later hb2 r0, cell_later hb2 r1, cell_later hb2 r2⟩)) ((go_at_call 7; refine (copy7_own (V m) _ (HVN.out (by first | rfl | trivial) m hlt2) (by exact r3.out)).mono ?_; rintro e w2 ⟨am, rfl, ham, hsp, hb2⟩; have HAM : Hid ((0 < (V m).n → am ≠ none) ∧ ∀ q, am = some q → q.spot = none) := ⟨ham, hsp⟩; clear ham hsp; have hrow2 := hrow.of_block (hb2.block w1.heap.size (by exact hrow.lt)); have s0 := hrow2.cell (i := m * 3) (by omega); have s1 := hrow2.cell (i := m * 3 + 1) (by omega); have s2 := hrow2.cell (i := m * 3 + 2) (by omega); have f0 := hrow2.frozen (m * 3); have f1 := hrow2.frozen (m * 3 + 1); have f2 := hrow2.frozen (m * 3 + 2)))
                have hrow3 : w2.rowIs w1.heap.size 35 (k * 3) (verCell (fun j => if j = m then am else A j) (fun j => (V j).n) D C m) := hrow2.congr (fun i _ => verCell_congr A _ (fun j => (V j).n) D C m i (fun j hj => by rw [if_neg (by omega)]))
                have hstep := verCell_step (fun j => if j = m then am else A j) (fun j => (V j).n) D C w2 w1.heap.size (k * 3) m hrow3
                have HST : Hid _ := hstep
                have hlr : w1.heap.size < wr.heap.size := hrow.lt
                have hbel2 : Below w1.heap.size w1 w2 := hbl.trans (Below.trans (Below.refl _ _).drew (hb2.mono (by show w1.heap.size ≤ wr.heap.size; omega)))
                clear hrow hrow2 hrow3 hstep s0 s1 s2 f0 f1 f2 r0 r1 r2 hb2
                go_wp2_with fail
                go_roundw
                case rel =>
                  refine ⟨m + 1, fun j => if j = m then am else A j, by omega, by go_num, ?_, ?_, ?_⟩
                  · have := HST.out
                    simp only [if_true] at this
                    exact this
                  · intro j hj h0
                    show ∃ q : Addr, (if j = m then am else A j) = some q ∧ q.spot = none
                    by_cases hjm : j = m
                    · rw [if_pos hjm]
                      obtain ⟨h1, h2⟩ := HAM.out
                      rw [hjm] at h0
                      cases am with
                      | none => exact absurd rfl (h1 h0)
                      | some q => exact ⟨q, rfl, h2 q rfl⟩
                    · rw [if_neg hjm]
                      exact HSP.out j (by omega) h0
                  · exact ((hbel2.setCell (by simp) _).setCell (by simp) _).setCell (by simp) _
                case measure => simp [intOf]; omega
              · obtain rfl : m = k := by omega
                have HCPY : Hid (Copied3 wr w1.heap.size m A (fun j => (V j).n) D C) := copied3_row hrow
                have hlr : w1.heap.size < wr.heap.size := hrow.lt
                clear hrow
                go_wp2_with fail
                go_meet
                case rel => exact ⟨some ⟨w1.heap.size, 0, none⟩, w1.heap.size, A, rfl, fun _ => ⟨rfl, hlr⟩, HCPY, HSP, hb1.trans (hbl.mono hb1.size)⟩
        case rest =>
          obtain ⟨a', g, A, rfl, HA, HCP, HSP, HB⟩ := hcut
          have hmk1 := fun w => run_make_many (P := Try.prog) 29 22 _ 1 24 Try.underlying29 info22 k (by omega) (by omega) w
          have hmk2 := fun w => run_make_many (P := Try.prog) 36 4 _ 1 1 Try.underlying36 info4 k (by omega) (by omega) w
          have hmk3 := fun w => run_make_many (P := Try.prog) 37 33 _ 1 8 Try.underlying37 info33 k (by omega) (by omega) w
          have HC0 : Hid (∀ j, j < k → 0 ≤ C j) := fun j hj => (HF.out.2.2 j hj).2.2.2.2
          clear HF HVN hb1
          go_upto_region 24 with fail
          clear hmk1 hmk2 hmk3
          go_wp2_with fail
          go_loopw [13] (fun i wr => ∃ m : Nat, m ≤ k ∧ i = .int .i64 m ∧ Hid (Rows3 wr wc.heap.size k A (fun j => (V j).n) D C m) ∧ Hid (Below wc.heap.size wc wr)) (fun i _ => k - (intOf i).toNat)
          case atStart =>
            exact ⟨0, Nat.zero_le _, rfl, rows3_new wc k A (fun j => (V j).n) D C, ((((Below.refl _ _).alloc (Nat.le_refl _) _).alloc (by simp) _).alloc (by simp; omega) _)⟩
          case round =>
            obtain ⟨m, hm, rfl, HR3, HBC⟩ := hrel
            by_cases hlt3 : m < k
            · obtain ⟨ha', hglt⟩ := HA.out (by omega)
              subst ha'
              obtain ⟨t0, t1, t2⟩ := HCP.out.later HBC.out m hlt3
              obtain ⟨x1, x2, x3⟩ := HR3.out
              have s0 := x1.cell (i := m) hlt3
              have s1 := x2.cell (i := m) hlt3
              have s2 := x3.cell (i := m) hlt3
              have f0 := x1.frozen m
              have f1 := x2.frozen m
              have f2 := x3.frozen m
              have HST : Hid _ := HR3.out.step
              have n1 : ¬ g = wc.heap.size := by omega
              have n2 : ¬ g = wc.heap.size + 1 := by omega
              have n3 : ¬ g = wc.heap.size + 2 := by omega
              have n1' : ¬ wc.heap.size = g := by omega
              have n2' : ¬ wc.heap.size + 1 = g := by omega
              have n3' : ¬ wc.heap.size + 2 = g := by omega
              have i0 : (0 : Int) ≤ (m : Int) := by omega
              have i1 : (m : Int) < (k : Int) := by omega
              clear x1 x2 x3
              go_wp2_with fail
              go_roundw
              case rel => exact ⟨m + 1, by omega, by go_num, HST, ((HBC.out.setCell (by show wc.heap.size ≤ wc.heap.size; omega) _).setCell (by show wc.heap.size ≤ wc.heap.size + 1; omega) _).setCell (by show wc.heap.size ≤ wc.heap.size + 2; omega) _⟩
              case measure => simp [intOf]; omega
            · obtain rfl : m = k := by omega
              have HT3 : Hid (Three wr wc.heap.size (wc.heap.size + 1) (wc.heap.size + 2) m A (fun j => (V j).n) D C) := HR3.out.three
              go_wp2_with fail
              refine (chain12 z wc.heap.size (wc.heap.size + 1) (wc.heap.size + 2) m A (fun j => (V j).n) D C wr hn HT3.out HC0.out).mono ?_
              rintro e w5 ⟨rfl, hb5⟩
              obtain ⟨v, ok, hp⟩ := pick_form (fun i => .slice (A i) (V i).n (V i).n) D (firstV (visZ z C) m m)
              rw [hp]
              have HP : Hid (pickV (fun i => .slice (A i) (V i).n (V i).n) D (firstV (visZ z C) m m) = .tuple #[v, .bool ok]) := hp
              have HC5 : Hid (Copied3 w5 g m A (fun j => (V j).n) D C) := (HCP.out.later HBC.out).later hb5
              have HB5 : Hid (Below w.heap.size w w5) := HB.out.trans ((HBC.out.trans (hb5.mono HBC.out.size)).mono HB.out.size)
              clear hp hb5 HT3 HR3 HBC HB HCP
              go_wp2_with fail
              go_loopw [16, 17] (fun bst i w' => ∃ j : Nat, j ≤ m ∧ i = .int .i64 ((j : Int) - 1) ∧ bst = .int .i64 (bestI (firstV (visZ z C) m (m - j))) ∧ Hid (w' = w5)) (fun _ i _ => (intOf i + 1).toNat)
              case atStart => exact ⟨m, Nat.le_refl _, rfl, by rw [Nat.sub_self]; rfl, rfl⟩
              case round =>
                obtain ⟨j, hj, rfl, rfl, HW⟩ := hrel
                cases j with
                | zero =>
                  have hB : Below w.heap.size w wr := by rw [HW.out]; exact HB5.out
                  have HFL := firstV_lt (visZ z C) m m (Nat.le_refl _)
                  have hpk := HP.out
                  rw [Nat.sub_zero]
                  cases hfv : firstV (visZ z C) m m with
                  | none =>
                    rw [hfv] at hpk
                    simp only [pickV, Value.tuple.injEq] at hpk
                    obtain ⟨rfl, rfl⟩ : Value.slice none 0 0 = v ∧ false = ok := by simpa using hpk
                    simp only [bestI]
                    clear hpk HP HFL hfv
                    go_wp2_with fail
                    go_ret
                    exact ⟨rfl, hB⟩
                  | some i =>
                    have hi : i < m := HFL i hfv
                    rw [hfv] at hpk
                    simp only [bestI]
                    obtain ⟨ha', hglt⟩ := HA.out (by omega)
                    subst ha'
                    obtain ⟨t0, t1, t2⟩ := HC5.out i hi
                    rw [← HW.out] at t0 t1 t2
                    have i0 : (0 : Int) ≤ (i : Int) := by omega
                    have i1 : (i : Int) < (m : Int) := by omega
                    cases hD : D i
                    · rw [hD] at t1
                      simp only [pickV, hD, Bool.false_eq_true, if_false] at hpk
                      obtain ⟨rfl, rfl⟩ : Value.slice (A i) (V i).n (V i).n = v ∧ true = ok := by simpa using hpk
                      clear hpk HP HFL hfv
                      simp only at t0
                      have hVn : (V i).n = 0 ∨ 0 < (V i).n := by omega
                      rcases hVn with h0 | h0
                      · rw [h0] at t0 ⊢
                        go_wp2_with fail
                        go_quiet (fail)
                        go_wp2_with fail
                        go_ret
                        exact ⟨rfl, below_drewN hB _⟩
                      · obtain ⟨qa, hqa, hqs⟩ := HSP.out i hi h0
                        obtain ⟨qb, qo, qs⟩ := qa
                        simp only at hqs
                        subst hqs
                        rw [hqa] at t0 ⊢
                        have h0i : (0 : Int) < (((V i).n : Nat) : Int) := by omega
                        go_wp2_with fail
                        go_quiet (fail)
                        go_wp2_with fail
                        go_ret
                        exact ⟨rfl, below_drewN hB _⟩
                    · rw [hD] at t1
                      simp only [pickV, hD, if_true] at hpk
                      obtain ⟨rfl, rfl⟩ : Value.slice none 0 0 = v ∧ false = ok := by simpa using hpk
                      clear hpk HP HFL hfv
                      go_wp2_with fail
                      go_ret
                      exact ⟨rfl, hB⟩
                | succ j =>
                  have hlt4 : j < m := by omega
                  have ej : (((j + 1 : Nat) : Int) - 1) = (j : Int) := by omega
                  rw [ej]
                  have hbs := best_step (visZ z C) m j hlt4
                  obtain ⟨ha', hglt⟩ := HA.out (by omega)
                  subst ha'
                  obtain ⟨t0, t1, t2⟩ := HC5.out j hlt4
                  rw [← HW.out] at t0 t1 t2
                  have i0 : (0 : Int) ≤ (j : Int) := by omega
                  have i1 : (j : Int) < (m : Int) := by omega
                  have HBS : Hid (firstV (visZ z C) m (m - j) = if visZ z C j = true then some j else firstV (visZ z C) m (m - (j + 1))) := hbs
                  clear hbs
                  generalize hB0 : bestI (firstV (visZ z C) m (m - (j + 1))) = B0 at *
                  have HB0 : Hid (bestI (firstV (visZ z C) m (m - (j + 1))) = B0) := hB0
                  clear hB0
                  cases z
                  · go_wp2_with fail
                    go_roundw
                    case rel => exact ⟨j, by omega, rfl, by rw [HBS.out]; rfl, HW⟩
                    case measure => simp [intOf]
                  · cases hz : (C j == 0)
                    · have hz' : ¬ C j = 0 := by simpa using hz
                      go_wp2_with fail
                      go_roundw
                      case rel =>
                        refine ⟨j, by omega, rfl, ?_, HW⟩
                        rw [HBS.out, if_neg (by simp [visZ, hz']), HB0.out]
                      case measure => simp [intOf]
                    · have hz' : C j = 0 := by simpa using hz
                      go_wp2_with fail
                      go_roundw
                      case rel =>
                        refine ⟨j, by omega, rfl, ?_, HW⟩
                        rw [HBS.out, if_pos (by simp [visZ, hz'])]
                        rfl
                      case measure => simp [intOf]
  · go_wp2_with fail
    go_ret
    exact ⟨rfl, hb1⟩
end Go.Proofs.Qxb6605487a
