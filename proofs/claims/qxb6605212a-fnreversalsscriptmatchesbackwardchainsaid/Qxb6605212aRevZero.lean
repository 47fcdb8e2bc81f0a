import Derived.Test.Qxb6605212aRevWalk
namespace Go.Proofs.Qxb6605212a
open Go.RowKit

set_option maxHeartbeats 8000000 in
set_option maxRecDepth 100000 in
theorem rev_zero (a1 a2 a3 : Option Addr) (n1 n2 n3 c1 c2 c3 : Nat) (u d : Nat) (w : World)
    (h1 : n1 ≤ maxLen) (h2 : n2 ≤ maxLen) (h3 : n3 ≤ maxLen) (h0 : n1 = 0 ∨ n2 = 0 ∨ n3 = 0) :
    Calls Try.prog 6 #[.slice a1 n1 c1, .slice a2 n2 c2, .slice a3 n3 c3, .float .f64 u, .float .f64 d] w fun e w' => e = .returned (.bool true) ∧ Below w.heap.size w w' := by
  have H0 : Hid (n1 = 0 ∨ n2 = 0 ∨ n3 = 0) := h0
  clear h0
  unfold maxLen at h1 h2 h3
  go_enter Try.func6, Try.ntmps6
  go_wp2_with fail
  refine (bytes19 _ _ _ _ _ _ _ _ _ _ _ _ (by unfold maxLen; omega) (by unfold maxLen; omega) (by unfold maxLen; omega)).mono ?_
  rintro e w' ⟨p, rfl, hw⟩
  obtain rfl := hw.symm
  cases p
  · go_wp2_with fail
    go_ret
    exact ⟨rfl, Below.refl _ _⟩
  go_upto_region 3 with fail
  by_cases l1 : n1 ≤ 65536
  case neg => go_wp2_with fail; all_goals (go_ret; exact ⟨rfl, Below.refl _ _⟩)
  by_cases l2 : n2 ≤ 65536
  case neg => go_wp2_with fail; all_goals (go_ret; exact ⟨rfl, Below.refl _ _⟩)
  by_cases l3 : n3 ≤ 65536
  case neg => go_wp2_with fail; all_goals (go_ret; exact ⟨rfl, Below.refl _ _⟩)
  by_cases l4 : n1 + n2 + n3 ≤ 131072
  case neg => go_wp2_with fail; all_goals (go_ret; exact ⟨rfl, Below.refl _ _⟩)
  cases hu : fgeq u 0
  case false => 
    have hu' : (FloatKind.f64.format.order u 0 == some .gt || FloatKind.f64.format.order u 0 == some .eq) = false := hu
    go_wp2_with fail; all_goals (go_ret; exact ⟨rfl, Below.refl _ _⟩)
  have hu' : (FloatKind.f64.format.order u 0 == some .gt || FloatKind.f64.format.order u 0 == some .eq) = true := hu
  cases hd : fgeq d 0
  case false => 
    have hd' : (FloatKind.f64.format.order d 0 == some .gt || FloatKind.f64.format.order d 0 == some .eq) = false := hd
    go_wp2_with fail; all_goals (go_ret; exact ⟨rfl, Below.refl _ _⟩)
  have hd' : (FloatKind.f64.format.order d 0 == some .gt || FloatKind.f64.format.order d 0 == some .eq) = true := hd
  go_upto_if 68 with fail
  go_cut [11] from 67 to 70 (fun v w' => v = .int .i64 ((min n1 n2 : Nat) : Int) ∧ w' = w)
  case first =>
    go_wp2
    all_goals
      go_meet
      case rel => exact ⟨by go_num, rfl⟩
  obtain ⟨rfl, hw⟩ := hcut
  obtain rfl := hw.symm
  go_upto_if 74 with fail
  go_cut [11] from 73 to 76 (fun v w' => v = .int .i64 ((min (min n1 n2) n3 : Nat) : Int) ∧ w' = w)
  case first =>
    go_wp2
    all_goals
      go_meet
      case rel => exact ⟨by go_num, rfl⟩
  obtain ⟨rfl, hw⟩ := hcut
  obtain rfl := hw.symm
  have hn : min (min n1 n2) n3 = 0 := by have := H0.out; omega
  rw [hn]
  clear hn
  go_wp2_with fail
  refine (make20 _).mono ?_
  rintro e w1 ⟨rfl, hb1⟩
  have hs1 := hb1.size
  go_wp2_with fail
  have hz : FloatKind.f64.format.read 0 = .number false 0 Ieee.double.leastPlace := by decide +kernel
  obtain ⟨s, hs, oks⟩ : ∃ s, Ieee.double.add u d = some s ∧ Fl.ok Ieee.double s := by
    have g : ∀ x, fgeq x 0 = true → ∃ o, Ieee.double.order x 0 = some o ∧ o ≠ .lt := by
      intro x hx
      unfold fgeq at hx
      rw [Bool.or_eq_true] at hx
      rcases hx with h | h
      · exact ⟨.gt, eq_of_beq h, by decide⟩
      · exact ⟨.eq, eq_of_beq h, by decide⟩
    obtain ⟨ou, e1, e2⟩ := g u hu
    obtain ⟨od, e3, e4⟩ := g d hd
    exact Fl.add_ok Ieee.double (by decide) u d 0 hz ou od e1 e2 e3 e4
  have HS : Hid (Ieee.double.add u d = some s) := hs
  clear hu hd hs hz hu' hd' oks
  go_loopw [13] (fun i wr => i = .int .i64 0 ∧ RS.at wr w1.heap.size ⟨0, 0, 0, false, false⟩ ∧ Below w1.heap.size w1 wr) (fun _ _ => 0)
  case atStart =>
    refine ⟨rfl, ?_, ?_⟩
    · simp only [RS.at, rsAt]
      simp
    · exact (Below.refl _ _).alloc (Nat.le_refl _) _
  case round =>
    obtain ⟨rfl, hat, hbel⟩ := hrel
    have hb2 : Below w.heap.size w wr := hb1.trans (hbel.mono hs1)
    clear hbel hb1
    go_wp2_with fail
    refine (fields22 w1.heap.size ⟨0, 0, 0, false, false⟩ wr hat).mono ?_
    rintro e w2 ⟨rfl, hdr⟩
    have hb3 : Below w.heap.size w w2 := by
      obtain ⟨nq, rfl⟩ := hdr
      exact below_drewN hb2 nq
    clear hdr hb2 hat
    go_wp2_with fail
    refine (zGap_any u d s HS.out _).mono ?_
    rintro e w3 ⟨rfl, hw⟩
    obtain rfl := hw.symm
    go_wp2_with fail
    go_loopw [20, 21] (fun l i wq => l = .int .i64 (-1) ∧ Below w.heap.size w wq ∧ i = .int .i64 (-1)) (fun _ _ _ => 0)
    case atStart => exact ⟨rfl, hb3, rfl⟩
    case round =>
      obtain ⟨rfl, hbq, rfl⟩ := hrel
      go_wp2_with fail
      go_ret
      exact ⟨rfl, hbq⟩
end Go.Proofs.Qxb6605212a
