/- The two bounds on bytes and zStateFits, walked. -/
import Derived.Test.Qxb6605212aShB
set_option linter.unusedVariables false
namespace Go.Proofs.Qxb6605212a
open Go.RowKit
attribute [local go_sem] run_store_flt

/-- it returns one bool or the other, and lays at most new blocks -/
def RetB (w : World) (e : Ending) (w' : World) : Prop := ∃ p, e = .returned (.bool p) ∧ Below w.heap.size w w'

set_option maxHeartbeats 2000000 in
theorem bytes12 (s : StIn) (x y : Int) (w : World) (h : s.In w) :
    Calls Try.prog 12 #[s.val, .int .i64 x, .int .i64 y] w (RetB w) := by
  obtain ⟨cur, last, dec, U, D, C, bef, idle, R, bst, bur, lost, isl⟩ := s
  have HI : Hid (R.In w) := h.2.2.2
  clear h
  simp only [StIn.val]
  obtain ⟨Ra, Rn, Rc, Rb, Ro, RS, RF, RE, RB⟩ := R
  go_enter Try.func12, Try.ntmps12
  go_wp2
  all_goals first | (go_ret; exact ⟨_, rfl, (Below.refl _ _).alloc (Nat.le_refl _) _⟩) | skip
  obtain ⟨w1, hw1⟩ : ∃ w1 : World, w1 = w.alloc (.cells #[.int .i64 cur, .int .i64 last, .bool dec, .slice U.a U.n U.c, .slice D.a D.n D.c, .slice C.a C.n C.c, .int .i64 bef, .int .i64 idle, .slice Ra Rn Rc, .int .i64 bst, .bool bur, .int .i64 lost, .bool isl] 32) := ⟨_, rfl⟩
  have hb1 : Below w.heap.size w w1 := by rw [hw1]; exact (Below.refl _ _).alloc (Nat.le_refl _) _
  have c8 : w1.cell? ⟨w.heap.size, 8, none⟩ = some (.slice Ra Rn Rc) := by rw [hw1]; simp
  have HI1 : Hid (RIn.In ⟨Ra, Rn, Rc, Rb, Ro, RS, RF, RE, RB⟩ w1) := HI.out.later hb1
  rw [← hw1]
  clear hw1 HI
  go_loop [7, 8] (fun z i => ∃ zz : Int, ∃ k : Nat, k ≤ Rn ∧ z = .int .i64 zz ∧ i = .int .i64 k) (fun _ i => Rn - (intOf i).toNat)
  case atStart => exact ⟨_, 0, Nat.zero_le _, rfl, rfl⟩
  case round =>
    obtain ⟨zz, k, hk, rfl, rfl⟩ := hrel
    by_cases hlt : k < Rn
    · obtain rfl : Ra = some ⟨Rb, Ro, none⟩ := HI1.out.1 (by show 0 < Rn; omega)
      have t3 : w1.cell? ⟨Rb, Ro + k * 4 + 3, none⟩ = some (.slice (RB k).a (RB k).n (RB k).c) := (HI1.out.2.2 k hlt).2.2.2.1
      have j0 : (0 : Int) ≤ (k : Int) := by omega
      have j1 : (k : Int) < (Rn : Int) := by omega
      go_wp2
      · go_ret
        exact ⟨_, rfl, hb1⟩
      · go_ret
        exact ⟨_, rfl, hb1⟩
      · go_round
        case rel => exact ⟨_, k + 1, by omega, rfl, by go_num⟩
        case measure => simp [intOf]; omega
    · go_wp2
      go_ret
      exact ⟨_, rfl, hb1⟩

set_option maxHeartbeats 2000000 in
theorem bytes18 (s : StIn) (x : Int) (pe : Nat) (y : Int) (w : World) (h : s.In w) :
    Calls Try.prog 18 #[s.val, .int .i64 x, .float .f64 pe, .int .i64 y] w (RetB w) := by
  obtain ⟨cur, last, dec, U, D, C, bef, idle, R, bst, bur, lost, isl⟩ := s
  have HI : Hid (R.In w) := h.2.2.2
  clear h
  simp only [StIn.val]
  obtain ⟨Ra, Rn, Rc, Rb, Ro, RS, RF, RE, RB⟩ := R
  go_enter Try.func18, Try.ntmps18
  go_wp2
  all_goals first | (go_ret; exact ⟨_, rfl, (Below.refl _ _).alloc (Nat.le_refl _) _⟩) | skip
  obtain ⟨w1, hw1⟩ : ∃ w1 : World, w1 = w.alloc (.cells #[.int .i64 cur, .int .i64 last, .bool dec, .slice U.a U.n U.c, .slice D.a D.n D.c, .slice C.a C.n C.c, .int .i64 bef, .int .i64 idle, .slice Ra Rn Rc, .int .i64 bst, .bool bur, .int .i64 lost, .bool isl] 32) := ⟨_, rfl⟩
  have hb1 : Below w.heap.size w w1 := by rw [hw1]; exact (Below.refl _ _).alloc (Nat.le_refl _) _
  have c8 : w1.cell? ⟨w.heap.size, 8, none⟩ = some (.slice Ra Rn Rc) := by rw [hw1]; simp
  have HI1 : Hid (RIn.In ⟨Ra, Rn, Rc, Rb, Ro, RS, RF, RE, RB⟩ w1) := HI.out.later hb1
  rw [← hw1]
  clear hw1 HI
  go_loop [9, 10] (fun z i => ∃ zz : Int, ∃ k : Nat, k ≤ Rn ∧ z = .int .i64 zz ∧ i = .int .i64 k) (fun _ i => Rn - (intOf i).toNat)
  case atStart => exact ⟨_, 0, Nat.zero_le _, rfl, rfl⟩
  case round =>
    obtain ⟨zz, k, hk, rfl, rfl⟩ := hrel
    by_cases hlt : k < Rn
    · obtain rfl : Ra = some ⟨Rb, Ro, none⟩ := HI1.out.1 (by show 0 < Rn; omega)
      have t3 : w1.cell? ⟨Rb, Ro + k * 4 + 3, none⟩ = some (.slice (RB k).a (RB k).n (RB k).c) := (HI1.out.2.2 k hlt).2.2.2.1
      have j0 : (0 : Int) ≤ (k : Int) := by omega
      have j1 : (k : Int) < (Rn : Int) := by omega
      go_wp2
      · go_ret
        exact ⟨_, rfl, hb1⟩
      · go_ret
        exact ⟨_, rfl, hb1⟩
      · go_round
        case rel => exact ⟨_, k + 1, by omega, rfl, by go_num⟩
        case measure => simp [intOf]; omega
    · go_wp2
      go_ret
      exact ⟨_, rfl, hb1⟩

/-- it returns a bool; true only where the state fits -/
def RetFits (s : StIn) (w : World) (e : Ending) (w' : World) : Prop := ∃ p, e = .returned (.bool p) ∧ (p = true → s.Fits) ∧ Below w.heap.size w w'

set_option maxHeartbeats 2000000 in
theorem fits13 (s : StIn) (w : World) (h : s.In w) :
    Calls Try.prog 13 #[s.val] w (RetFits s w) := by
  obtain ⟨cur, last, dec, U, D, C, bef, idle, R, bst, bur, lost, isl⟩ := s
  have HI : Hid (R.In w) := h.2.2.2
  clear h
  simp only [StIn.val]
  obtain ⟨Ra, Rn, Rc, Rb, Ro, RS, RF, RE, RB⟩ := R
  by_cases l1 : U.n ≤ 65536
  case neg =>
    go_enter Try.func13, Try.ntmps13
    go_wp2
    all_goals (go_ret; exact ⟨false, rfl, fun h => by simp at h, (Below.refl _ _).alloc (Nat.le_refl _) _⟩)
  by_cases l2 : D.n ≤ 65536
  case neg =>
    go_enter Try.func13, Try.ntmps13
    go_wp2
    all_goals (go_ret; exact ⟨false, rfl, fun h => by simp at h, (Below.refl _ _).alloc (Nat.le_refl _) _⟩)
  by_cases l3 : C.n ≤ 65536
  case neg =>
    go_enter Try.func13, Try.ntmps13
    go_wp2
    all_goals (go_ret; exact ⟨false, rfl, fun h => by simp at h, (Below.refl _ _).alloc (Nat.le_refl _) _⟩)
  by_cases l4 : Rn ≤ 65536
  case neg =>
    go_enter Try.func13, Try.ntmps13
    go_wp2
    all_goals (go_ret; exact ⟨false, rfl, fun h => by simp at h, (Below.refl _ _).alloc (Nat.le_refl _) _⟩)
  go_enter Try.func13, Try.ntmps13
  go_wp2
  all_goals first | (go_ret; exact ⟨false, rfl, fun h => by simp at h, (Below.refl _ _).alloc (Nat.le_refl _) _⟩) | skip
  obtain ⟨w1, hw1⟩ : ∃ w1 : World, w1 = w.alloc (.cells #[.int .i64 cur, .int .i64 last, .bool dec, .slice U.a U.n U.c, .slice D.a D.n D.c, .slice C.a C.n C.c, .int .i64 bef, .int .i64 idle, .slice Ra Rn Rc, .int .i64 bst, .bool bur, .int .i64 lost, .bool isl] 32) := ⟨_, rfl⟩
  have hb1 : Below w.heap.size w w1 := by rw [hw1]; exact (Below.refl _ _).alloc (Nat.le_refl _) _
  have c8 : w1.cell? ⟨w.heap.size, 8, none⟩ = some (.slice Ra Rn Rc) := by rw [hw1]; simp
  have HI1 : Hid (RIn.In ⟨Ra, Rn, Rc, Rb, Ro, RS, RF, RE, RB⟩ w1) := HI.out.later hb1
  rw [← hw1]
  clear hw1 HI
  go_loop [3, 4] (fun z i => ∃ zz : Int, ∃ k : Nat, k ≤ Rn ∧ z = .int .i64 zz ∧ i = .int .i64 k ∧ Hid (∀ j, j < k → (RB j).n ≤ 1048576)) (fun _ i => Rn - (intOf i).toNat)
  case atStart => exact ⟨_, 0, Nat.zero_le _, rfl, rfl, fun j hj => by omega⟩
  case round =>
    obtain ⟨zz, k, hk, rfl, rfl, HJ⟩ := hrel
    by_cases hlt : k < Rn
    · obtain rfl : Ra = some ⟨Rb, Ro, none⟩ := HI1.out.1 (by show 0 < Rn; omega)
      have t3 : w1.cell? ⟨Rb, Ro + k * 4 + 3, none⟩ = some (.slice (RB k).a (RB k).n (RB k).c) := (HI1.out.2.2 k hlt).2.2.2.1
      have j0 : (0 : Int) ≤ (k : Int) := by omega
      have j1 : (k : Int) < (Rn : Int) := by omega
      by_cases hm : (RB k).n ≤ 1048576
      · go_wp2
        · go_ret
          exact ⟨false, rfl, fun h => by simp at h, hb1⟩
        · go_round
          case rel =>
            refine ⟨_, k + 1, by omega, rfl, by go_num, ?_⟩
            intro j hj
            by_cases e : j = k
            · subst e; exact hm
            · exact HJ.out j (by omega)
          case measure => simp [intOf]; omega
      · go_wp2
        go_ret
        exact ⟨false, rfl, fun h => by simp at h, hb1⟩
    · obtain rfl : k = Rn := by omega
      go_wp2
      go_ret
      exact ⟨true, rfl, fun _ => ⟨l1, l2, l3, l4, HJ.out⟩, hb1⟩
end Go.Proofs.Qxb6605212a
