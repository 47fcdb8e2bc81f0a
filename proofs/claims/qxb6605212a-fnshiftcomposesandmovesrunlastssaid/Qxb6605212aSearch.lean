/- THE SEARCH: the model's linear scan; the closure; the library's BinarySearchFunc; changes.at. -/
import Derived.Test.Qxb6605212aPts
namespace Go.Proofs.Qxb6605212a
open Go.RowKit

/-- the linear scan from the newest on -/
def scan (T N : Nat → Int) (bf t : Int) (pe : Nat) : Nat → Int
  | 0 => bf
  | k + 1 => if fgeq (since (T k) t) pe = true then N k else scan T N bf t pe k

set_option maxHeartbeats 400000 in
theorem model11 (a : Option Addr) (b o n c : Nat) (T N : Nat → Int) (bf t : Int) (pe : Nat) (w : World) (hn : n ≤ 65536) (ha : 0 < n → a = some ⟨b, o, none⟩) (h : pts w b o n T N) :
    Calls Try.prog 11 #[.slice a n c, .int .i64 bf, .int .i64 t, .float .f64 pe] w fun e w' => e = .returned (.int .i64 (scan T N bf t pe n)) ∧ w' = w := by
  have HA : Hid (0 < n → a = some ⟨b, o, none⟩) := ha
  clear ha
  go_enter Try.func11, Try.ntmps11
  go_wp2
  go_loop [9] (fun i => Hid (∃ k : Nat, k ≤ n ∧ i = .int .i64 ((k : Int) - 1) ∧ scan T N bf t pe n = scan T N bf t pe k)) (fun i => (intOf i + 1).toNat)
  case atStart => exact ⟨n, Nat.le_refl _, rfl, rfl⟩
  case round =>
    obtain ⟨k, hk, rfl, hs⟩ := hrel.out
    clear hrel
    have HS : Hid (scan T N bf t pe n = scan T N bf t pe k) := hs
    clear hs
    by_cases h0 : k = 0
    · subst h0
      go_wp2
      go_ret
      exact ⟨by rw [HS.out]; rfl, rfl⟩
    · obtain ⟨j, rfl⟩ : ∃ j, k = j + 1 := ⟨k - 1, by omega⟩
      obtain rfl := HA.out (by omega)
      have r1 := (h j (by omega)).1
      have r2 := (h j (by omega)).2
      have e1 : ((j + 1 : Nat) : Int) - 1 = (j : Int) := by omega
      rw [e1]
      clear e1
      cases hp : fgeq (since (T j) t) pe
      · have hp' : (FloatKind.f64.format.order (since (T j) t) pe == some .gt || FloatKind.f64.format.order (since (T j) t) pe == some .eq) = false := hp
        have ES : Hid (scan T N bf t pe n = scan T N bf t pe j) := by rw [Hid, HS.out]; simp [scan, hp]
        clear HS hp
        go_wp2_with (go_at_call 24; refine (zSince_any _ _ _).mono ?_; rintro e w' ⟨rfl, rfl⟩)
        go_round
        case rel => exact ⟨j, by omega, rfl, ES.out⟩
        case measure => simp [intOf]
      · have hp' : (FloatKind.f64.format.order (since (T j) t) pe == some .gt || FloatKind.f64.format.order (since (T j) t) pe == some .eq) = true := hp
        have ES : Hid (scan T N bf t pe n = N j) := by rw [Hid, HS.out]; simp [scan, hp]
        clear HS hp
        go_wp2_with (go_at_call 24; refine (zSince_any _ _ _).mono ?_; rintro e w' ⟨rfl, rfl⟩)
        go_ret
        exact ⟨by rw [ES.out]; rfl, rfl⟩

/-- the closure that at hands to the search: below where at least the period has passed -/
def cmpOf (p : Bool) : Int := if p then -1 else 1

set_option maxHeartbeats 400000 in
theorem closure31 (x y t : Int) (pe : Nat) (bp : Nat) (w : World) (h : w.cell? ⟨bp, 0, none⟩ = some (.float .f64 pe)) :
    Calls Try.prog 31 #[.agg #[.int .i64 x, .int .i64 y], .int .i64 t, .pointer (some ⟨bp, 0, none⟩)] w fun e w' => e = .returned (.int .i64 (cmpOf (fgeq (since x t) pe))) ∧ Below w.heap.size w w' := by
  have hb : bp < w.heap.size := World.block_lt_of_cell? _ _ h
  cases hp : fgeq (since x t) pe
  · have hp' : (FloatKind.f64.format.order (since x t) pe == some .gt || FloatKind.f64.format.order (since x t) pe == some .eq) = false := hp
    clear hp
    go_enter Try.func31, Try.ntmps31
    go_wp2_with fail
    go_quiet ((go_at_call 32; exact Calls.quiet_of_same (elapsed_any _ _ _)))
    go_wp2_with fail
    go_ret
    exact ⟨rfl, below_drewN ((Below.refl _ _).alloc (Nat.le_refl _) _) _⟩
  · have hp' : (FloatKind.f64.format.order (since x t) pe == some .gt || FloatKind.f64.format.order (since x t) pe == some .eq) = true := hp
    clear hp
    go_enter Try.func31, Try.ntmps31
    go_wp2_with fail
    go_quiet ((go_at_call 32; exact Calls.quiet_of_same (elapsed_any _ _ _)))
    go_wp2_with fail
    go_ret
    exact ⟨rfl, below_drewN ((Below.refl _ _).alloc (Nat.le_refl _) _) _⟩
end Go.Proofs.Qxb6605212a
