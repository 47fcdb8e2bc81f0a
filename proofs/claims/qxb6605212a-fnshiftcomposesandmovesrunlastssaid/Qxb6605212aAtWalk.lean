/- ZZChangesAt and the law over changes.at, walked. -/
import Derived.Test.Qxb6605212aBin
import Derived.Test.Qxb6605212aSince
namespace Go.Proofs.Qxb6605212a
open Go.RowKit

/-- a store of a float: as of a number (the kit's laws bear integers, bools, slices ..) -/
theorem run_store_float {P : Program} {w : World} {a : Addr} {m : Mode} (k : FloatKind) (b : Nat) : (store a (.float k b) m).run P w = stored P w a (.float k b) m := run_store P w a _ m rfl
attribute [local go_sem] run_store_float

set_option maxHeartbeats 1000000 in
theorem changesAt10 (sp : Nat) (bf : Int) (a : Option Addr) (g o n c : Nat) (T N : Nat → Int) (t : Int) (pe : Nat) (w : World) (hn : n ≤ 65536) (ha : 0 < n → a = some ⟨g, o, none⟩) (h : pts w g o n T N)
    (hmono : Hid (∀ j k, j ≤ k → k < n → fgeq (since (T k) t) pe = true → fgeq (since (T j) t) pe = true)) :
    Calls Try.prog 10 #[.float .f64 sp, .int .i64 bf, .slice a n c, .int .i64 t, .float .f64 pe] w fun e w' => e = .returned (.int .i64 (scan T N bf t pe n)) ∧ Below w.heap.size w w' := by
  have HA : Hid (0 < n → a = some ⟨g, o, none⟩) := ha
  clear ha
  go_enter Try.func10, Try.ntmps10
  go_wp2_with fail
  have hw1 : Below w.heap.size w (w.alloc (.cells #[.float .f64 sp, .int .i64 bf, .slice a n c] 65)) := (Below.refl _ _).alloc (Nat.le_refl _) _
  have hp1 : pts (w.alloc (.cells #[.float .f64 sp, .int .i64 bf, .slice a n c] 65)) g o n T N := fun j hj => ⟨cell_later hw1 (h j hj).1, cell_later hw1 (h j hj).2⟩
  refine (at25 w.heap.size sp bf a g o n c T N t pe _ hn HA.out hp1 (by simp) (by simp) (by simp) hmono).mono ?_
  rintro e w2 ⟨rfl, hb2⟩
  have hbel : Below w.heap.size w w2 := hw1.trans (hb2.mono (by simp))
  clear hw1 hp1 hb2 h
  go_wp2_with fail
  go_ret
  exact ⟨rfl, hbel⟩

/-- the copy's cells read as points -/
theorem pts_copied {w : World} {g n : Nat} {T N : Nat → Int} (h : w.rowIs g 63 (n * 2) (copied T N n)) : pts w g 0 n T N := by
  intro j hj
  have h1 := h.cell (i := j * 2) (by omega)
  have h2 := h.cell (i := j * 2 + 1) (by omega)
  have e1 : copied T N n (j * 2) = .int .i64 (T j) := by
    simp only [copied]
    rw [if_pos (by omega), if_pos (by omega), show j * 2 / 2 = j by omega]
  have e2 : copied T N n (j * 2 + 1) = .int .i64 (N j) := by
    simp only [copied]
    rw [if_pos (by omega), if_neg (by omega), show (j * 2 + 1) / 2 = j by omega]
  rw [e1] at h1
  rw [e2] at h2
  rw [Nat.zero_add]
  exact ⟨h1, h2⟩

theorem pts_below {w w' : World} {g o n : Nat} {T N : Nat → Int} (hb : Below w.heap.size w w') (h : pts w g o n T N) : pts w' g o n T N :=
  fun j hj => ⟨cell_later hb (h j hj).1, cell_later hb (h j hj).2⟩

/-- the slice of points copied, nil or not -/
theorem points9_any (a : Option Addr) (b o n c : Nat) (T N : Nat → Int) (w : World) (hn : n ≤ 65536) (ha : 0 < n → a = some ⟨b, o, none⟩) (hz : a = none → n = 0 ∧ c = 0) (h : pts w b o n T N) :
    Calls Try.prog 9 #[.slice a n c] w fun e w' => ∃ a' g c', e = .returned (.slice a' n c') ∧ (0 < n → a' = some ⟨g, 0, none⟩) ∧ pts w' g 0 n T N ∧ Below w.heap.size w w' := by
  cases a with
  | none =>
    obtain ⟨rfl, rfl⟩ := hz rfl
    refine (points9_nil w).mono ?_
    rintro e w' ⟨rfl, rfl⟩
    exact ⟨none, 0, 0, rfl, fun h => by omega, fun j hj => by omega, Below.refl _ _⟩
  | some x =>
    refine (points9 (some x) b o n c T N w hn ha rfl h (fun h0 => World.block_lt_of_cell? _ _ (h 0 h0).1)).mono ?_
    rintro e w' ⟨g, rfl, _, hrow, hbel⟩
    exact ⟨_, g, n, rfl, fun _ => rfl, pts_copied hrow, hbel⟩

set_option maxHeartbeats 1000000 in
theorem at_law (sp : Nat) (bf : Int) (a : Option Addr) (b o n c : Nat) (T N : Nat → Int) (t : Int) (pe : Nat) (w : World) (hn : n ≤ maxLen) (ha : 0 < n → a = some ⟨b, o, none⟩) (hz : a = none → n = 0 ∧ c = 0) (h : pts w b o n T N)
    (ht : -9223372036854775808 ≤ t ∧ t ≤ 9223372036854775807) (hT : ∀ j, j < n → -9223372036854775808 ≤ T j ∧ T j ≤ 9223372036854775807) :
    Calls Try.prog 3 #[.float .f64 sp, .int .i64 bf, .slice a n c, .int .i64 t, .float .f64 pe] w fun e w' => e = .returned (.bool true) ∧ Below w.heap.size w w' := by
  obtain ⟨HA, HZ, HT, HH⟩ : Hid (0 < n → a = some ⟨b, o, none⟩) ∧ Hid (a = none → n = 0 ∧ c = 0) ∧ Hid (-9223372036854775808 ≤ t ∧ t ≤ 9223372036854775807) ∧ Hid (∀ j, j < n → -9223372036854775808 ≤ T j ∧ T j ≤ 9223372036854775807) := ⟨ha, hz, ht, hT⟩
  have HM : Hid (n ≤ maxLen) := hn
  unfold maxLen at hn
  clear ha hz ht hT
  go_enter Try.func3, Try.ntmps3
  go_wp2_with fail
  refine (bytes7 _ _ _ _ _ _ _ _ HM.out).mono ?_
  rintro e w' ⟨p, rfl, hw⟩
  obtain rfl := hw.symm
  cases p
  · go_wp2_with fail
    go_ret
    exact ⟨rfl, Below.refl _ _⟩
  go_upto_region 3 with fail
  by_cases l1 : n ≤ 65536
  case neg => go_wp2_with fail; all_goals (go_ret; exact ⟨rfl, Below.refl _ _⟩)
  go_wp2_with fail
  refine (domain8 a b o n c T N t w HM.out HA.out h).mono ?_
  rintro e w1 ⟨p, rfl, hdom, k, rfl⟩
  have hb1 : Below w.heap.size w (w.drewN k) := below_drewN (Below.refl _ _) _
  generalize w.drewN k = w1 at hb1 ⊢
  have HD : Hid (p = true → ∀ j, j < n → T j ≤ t ∧ (0 < j → T (j - 1) ≤ T j)) := hdom
  clear hdom
  cases p
  · go_wp2_with fail
    go_ret
    exact ⟨rfl, hb1⟩
  have hm : Hid (∀ j k, j ≤ k → k < n → fgeq (since (T k) t) pe = true → fgeq (since (T j) t) pe = true) := mono_of_domain T t n pe HT.out HH.out (HD.out rfl)
  clear HD
  go_wp2_with fail
  refine (points9_any a b o n c T N w1 l1 HA.out HZ.out (pts_below hb1 h)).mono ?_
  rintro e w2 ⟨a', g, c', rfl, ha', hp2, hb2⟩
  have HA' : Hid (0 < n → a' = some ⟨g, 0, none⟩) := ha'
  clear ha'
  go_wp2_with fail
  refine (changesAt10 sp bf a' g 0 n c' T N t pe w2 l1 HA'.out hp2 hm).mono ?_
  rintro e w3 ⟨rfl, hb3⟩
  have hb13 : Below w1.heap.size w1 w3 := hb2.trans (hb3.mono hb2.size)
  have hb03 : Below w.heap.size w w3 := hb1.trans (hb13.mono hb1.size)
  clear hb2 hb3 hb13 hp2
  go_wp2_with fail
  refine (model11 a b o n c T N bf t pe w3 l1 HA.out (pts_below hb03 h)).mono ?_
  rintro e w4 ⟨rfl, hw⟩
  obtain rfl := hw.symm
  go_wp2_with fail
  go_ret
  exact ⟨rfl, hb03⟩
end Go.Proofs.Qxb6605212a
