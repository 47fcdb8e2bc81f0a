/- WALKS ON THE ROAD OF 'changes.at': the model's scan, the domain's check, the copy of the points. -/
import Derived.Test.Qxb6605212aLeaf
namespace Go.Proofs.Qxb6605212a
open Go.RowKit

set_option maxHeartbeats 400000 in
theorem bytes7 (sp : Nat) (bf : Int) (a : Option Addr) (n c : Nat) (t : Int) (pe : Nat) (w : World) (h : n ≤ maxLen) :
    Calls Try.prog 7 #[.float .f64 sp, .int .i64 bf, .slice a n c, .int .i64 t, .float .f64 pe] w fun e w' => ∃ p, e = .returned (.bool p) ∧ w' = w := by
  unfold maxLen at h
  go_enter Try.func7, Try.ntmps7
  go_wp2
  all_goals (go_ret; exact ⟨_, rfl, rfl⟩)

/-- n points from address b, o on: seconds T, counts N -/
def pts (w : World) (b o n : Nat) (T N : Nat → Int) : Prop :=
  ∀ j, j < n → w.cell? ⟨b, o + j * 2, none⟩ = some (.int .i64 (T j)) ∧ w.cell? ⟨b, o + j * 2 + 1, none⟩ = some (.int .i64 (N j))

set_option maxHeartbeats 400000 in
theorem domain8_at (b o n c : Nat) (T N : Nat → Int) (t : Int) (w : World) (hn : n ≤ maxLen) (h : pts w b o n T N) :
    Calls Try.prog 8 #[.slice (some ⟨b, o, none⟩) n c, .int .i64 t] w fun e w' => ∃ p, e = .returned (.bool p) ∧ (p = true → ∀ j, j < n → T j ≤ t ∧ (0 < j → T (j - 1) ≤ T j)) ∧ ∃ k, w' = w.drewN k := by
  unfold maxLen at hn
  go_enter Try.func8, Try.ntmps8
  go_wp2
  go_loopw [5] (fun i wr => ∃ k : Nat, k ≤ n ∧ i = .int .i64 k ∧ Hid (∀ j, j < k → T j ≤ t ∧ (0 < j → T (j - 1) ≤ T j)) ∧ ∃ m, wr = w.drewN m) (fun i _ => n - (intOf i).toNat)
  case atStart => exact ⟨0, Nat.zero_le _, rfl, fun j hj => by omega, 0, rfl⟩
  case round =>
    obtain ⟨k, hk, rfl, HK, m, rfl⟩ := hrel
    by_cases hlt : k < n
    · have r1 := (h k hlt).1
      by_cases ht : t < T k
      · go_wp2
        go_ret
        exact ⟨false, rfl, fun h => by simp at h, _, rfl⟩
      · by_cases h0 : k = 0
        · subst h0
          simp only [Nat.zero_mul, Nat.add_zero] at r1
          go_wp2
          go_quiet (fail)
          go_wp2
          go_roundw
          case rel =>
            refine ⟨1, by omega, by go_num, ?_, _, rfl⟩
            intro j hj
            obtain rfl : j = 0 := by omega
            exact ⟨by omega, by omega⟩
          case measure => simp [intOf]; omega
        · have r0 := (h (k - 1) (by omega)).1
          have e0 : (k : Int) - 1 = ((k - 1 : Nat) : Int) := by omega
          have g0 : 0 < k := by omega
          have g1 : (0 : Int) ≤ (k : Int) - 1 := by omega
          have g2 : (k : Int) - 1 < (n : Int) := by omega
          have g3 : (k : Int) < (n : Int) := by omega
          have g4 : (k : Int).toNat = k := by omega
          have g5 : ((k : Int) - 1).toNat = k - 1 := by omega
          clear e0
          by_cases ht2 : T k < T (k - 1)
          · go_wp2
            go_quiet (fail)
            go_wp2
            go_ret
            exact ⟨false, rfl, fun h => by simp at h, m + nq, by rw [World.drewN_drewN]⟩
          · go_wp2
            go_quiet (fail)
            go_wp2
            go_roundw
            case rel =>
              refine ⟨k + 1, by omega, by go_num, ?_, _, rfl⟩
              intro j hj
              by_cases hj' : j = k
              · subst hj'; exact ⟨by omega, fun _ => by omega⟩
              · exact HK.out j (by omega)
            case measure => simp [intOf]; omega
    · go_wp2
      go_ret
      exact ⟨true, rfl, fun _ j hj => HK.out j (by omega), _, rfl⟩
set_option maxHeartbeats 400000 in
theorem domain8_zero (a : Option Addr) (c : Nat) (t : Int) (w : World) :
    Calls Try.prog 8 #[.slice a 0 c, .int .i64 t] w fun e w' => e = .returned (.bool true) ∧ w' = w := by
  go_enter Try.func8, Try.ntmps8
  go_wp2
  go_loop [5] (fun i => i = .int .i64 0) (fun _ => 0)
  case atStart => rfl
  case round =>
    obtain rfl := hrel
    go_wp2
    go_ret
    exact ⟨rfl, rfl⟩

theorem domain8 (a : Option Addr) (b o n c : Nat) (T N : Nat → Int) (t : Int) (w : World) (hn : n ≤ maxLen) (ha : 0 < n → a = some ⟨b, o, none⟩) (h : pts w b o n T N) :
    Calls Try.prog 8 #[.slice a n c, .int .i64 t] w fun e w' => ∃ p, e = .returned (.bool p) ∧ (p = true → ∀ j, j < n → T j ≤ t ∧ (0 < j → T (j - 1) ≤ T j)) ∧ ∃ k, w' = w.drewN k := by
  by_cases h0 : n = 0
  · subst h0
    refine (domain8_zero a c t w).mono ?_
    rintro e w' ⟨rfl, rfl⟩
    exact ⟨true, rfl, fun _ j hj => by omega, 0, rfl⟩
  · obtain rfl := ha (by omega)
    exact domain8_at b o n c T N t w hn h
end Go.Proofs.Qxb6605212a
