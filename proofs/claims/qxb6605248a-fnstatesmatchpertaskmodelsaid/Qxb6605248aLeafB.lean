/- Leaf walks of the road of FnOwedDueThenPass. -/
import Derived.Test.Qxb6605248aBy6
set_option linter.unusedVariables false
namespace Go.Proofs.Qxb6605248a
open Go.RowKit

set_option maxHeartbeats 1000000 in
theorem tooBig18 (aA : Option Addr) (nA cA : Nat) (aB : Option Addr) (nB cB bB oB : Nat) (TB : Nat → ByteArray) (aC : Option Addr) (nC cC bC oC : Nat) (TC : Nat → ByteArray) (aD : Option Addr) (nD cD : Nat) (aE : Option Addr) (nE cE bE oE : Nat) (TE : Nat → ByteArray) (w : World)
    (hB : Row w aB nB bB oB (fun j => .string (TB j))) (hC : Row w aC nC bC oC (fun j => .string (TC j))) (hE : Row w aE nE bE oE (fun j => .string (TE j)))
    (hn : nA ≤ 4096 ∧ nB ≤ 4096 ∧ nC ≤ 4096 ∧ nD ≤ 4096 ∧ nE ≤ 4096) (hs : bytes26_small nB nC nE TB TC TE) :
    Calls Try.prog 18 #[.slice aA nA cA, .slice aB nB cB, .slice aC nC cC, .slice aD nD cD, .slice aE nE cE] w (RetB w) := by
  obtain ⟨h1, h2, h3, h4, h5⟩ := hn
  obtain ⟨s1, s2, s3⟩ := hs
  have k1 := strBytes33 aB nB cB bB oB TB w hB h2 s1
  have k2 := strBytes33 aC nC cC bC oC TC w hC h3 s2
  have k3 := strBytes33 aE nE cE bE oE TE w hE h5 s3
  clear hB hC hE s1 s2 s3
  go_enter Try.func18, Try.ntmps18
  go_wp2_with fail
  refine k1.mono ?_
  rintro e w' ⟨t1, rfl, ht1, hw⟩
  obtain rfl := hw.symm
  clear hw k1
  go_wp2_with fail
  refine k2.mono ?_
  rintro e w' ⟨t2, rfl, ht2, hw⟩
  obtain rfl := hw.symm
  clear hw k2
  go_wp2_with fail
  refine k3.mono ?_
  rintro e w' ⟨t3, rfl, ht3, hw⟩
  obtain rfl := hw.symm
  clear hw k3
  go_wp2_with fail
  go_ret
  exact ⟨_, rfl, rfl⟩

/-- is x among the first n? -/
def hasI (X : Nat → Int) (n : Nat) (x : Int) : Bool := (List.range n).any (fun j => X j == x)

set_option maxHeartbeats 1000000 in
theorem firstInt24 (a : Option Addr) (n c b o : Nat) (X : Nat → Int) (x : Int) (w : World) (h : Row w a n b o (fun j => .int .i64 (X j))) (hn : n ≤ maxLen) :
    Calls Try.prog 24 #[.slice a n c, .int .i64 x] w fun e w' => ∃ r : Int, e = .returned (.int .i64 r) ∧ ((r = -1 ∧ ∀ j, j < n → X j ≠ x) ∨ (0 ≤ r ∧ ∃ j, j < n ∧ X j = x)) ∧ w' = w := by
  have HR : Hid (Row w a n b o (fun j => .int .i64 (X j))) := h
  clear h
  unfold maxLen at hn
  go_enter Try.func24, Try.ntmps24
  go_wp2_with fail
  go_loopw [5] (fun i wr => ∃ k : Nat, k ≤ n ∧ i = .int .i64 k ∧ Hid (∀ j, j < k → X j ≠ x) ∧ wr = w) (fun i _ => n - (intOf i).toNat)
  case atStart => exact ⟨0, Nat.zero_le _, rfl, fun j hj => by omega, rfl⟩
  case round =>
    obtain ⟨k, hk, rfl, HN, hw⟩ := hrel
    obtain rfl := hw.symm
    clear hw
    by_cases hlt : k < n
    · obtain rfl : a = some ⟨b, o, none⟩ := HR.out.1 (by omega)
      have r1 : w.cell? ⟨b, o + k, none⟩ = some (.int .i64 (X k)) := HR.out.2.2 k hlt
      have i0 : (0 : Int) ≤ (k : Int) := by omega
      have i1 : (k : Int) < (n : Int) := by omega
      by_cases hx : X k = x
      · go_wp2_with fail
        go_ret
        exact ⟨_, rfl, .inr ⟨by omega, k, hlt, hx⟩, rfl⟩
      · go_wp2_with fail
        go_roundw
        case rel =>
          refine ⟨k + 1, by omega, by go_num, fun j hj => ?_, by first | rfl | trivial⟩
          by_cases hjk : j < k
          · exact HN.out j hjk
          · obtain rfl : j = k := by omega
            exact hx
        case measure => simp [intOf]; omega
    · obtain rfl : k = n := by omega
      go_wp2_with fail
      go_ret
      exact ⟨_, rfl, .inl ⟨rfl, HN.out⟩, rfl⟩

theorem hasI_true {X : Nat → Int} {n : Nat} {x : Int} (h : ∃ j, j < n ∧ X j = x) : hasI X n x = true := by
  obtain ⟨j, hj, e⟩ := h
  exact List.any_eq_true.2 ⟨j, List.mem_range.2 hj, by simp [e]⟩
theorem hasI_false {X : Nat → Int} {n : Nat} {x : Int} (h : ∀ j, j < n → X j ≠ x) : hasI X n x = false := by
  refine List.any_eq_false.2 (fun j hj => ?_)
  simpa using h j (List.mem_range.1 hj)

set_option maxHeartbeats 1000000 in
theorem hasInt27 (a : Option Addr) (n c b o : Nat) (X : Nat → Int) (x : Int) (w : World) (h : Row w a n b o (fun j => .int .i64 (X j))) (hn : n ≤ maxLen) :
    Calls Try.prog 27 #[.slice a n c, .int .i64 x] w fun e w' => e = .returned (.bool (hasI X n x)) ∧ w' = w := by
  have k1 := firstInt24 a n c b o X x w h hn
  clear h
  go_enter Try.func27, Try.ntmps27
  go_wp2_with fail
  refine k1.mono ?_
  rintro e w' ⟨r, rfl, hr, hw⟩
  obtain rfl := hw.symm
  clear hw k1
  rcases hr with ⟨rfl, hr⟩ | ⟨h0, hr⟩
  · have hf := hasI_false hr
    clear hr
    go_wp2_with fail
    go_ret
    exact ⟨by rw [hf]; rfl, rfl⟩
  · have hf := hasI_true hr
    clear hr
    go_wp2_with fail
    go_ret
    exact ⟨by rw [hf]; simp, rfl⟩

set_option maxHeartbeats 1000000 in
theorem sameInts29 (a : Option Addr) (n c b o : Nat) (X : Nat → Int) (a' : Option Addr) (c' b' o' : Nat) (X' : Nat → Int) (w : World) (h : Row w a n b o (fun j => .int .i64 (X j))) (h' : Row w a' n b' o' (fun j => .int .i64 (X' j))) (hX : ∀ j, j < n → X' j = X j) (hn : n ≤ maxLen) :
    Calls Try.prog 29 #[.slice a n c, .slice a' n c'] w fun e w' => e = .returned (.bool true) ∧ ∃ k, w' = w.drewN k := by
  have HR : Hid (Row w a n b o (fun j => .int .i64 (X j))) := h
  have HR' : Hid (Row w a' n b' o' (fun j => .int .i64 (X' j))) := h'
  have HX : Hid (∀ j, j < n → X' j = X j) := hX
  clear h h' hX
  unfold maxLen at hn
  go_enter Try.func29, Try.ntmps29
  go_wp2_with fail
  go_loopw [5] (fun i wr => ∃ k : Nat, k ≤ n ∧ i = .int .i64 k ∧ ∃ m, wr = w.drewN m) (fun i _ => n - (intOf i).toNat)
  case atStart => exact ⟨0, Nat.zero_le _, rfl, 0, rfl⟩
  case round =>
    obtain ⟨k, hk, rfl, m, hwr⟩ := hrel
    have HW : Hid (wr = w.drewN m) := hwr
    by_cases hlt : k < n
    · obtain rfl : a = some ⟨b, o, none⟩ := HR.out.1 (by omega)
      obtain rfl : a' = some ⟨b', o', none⟩ := HR'.out.1 (by omega)
      have r1 : wr.cell? ⟨b, o + k, none⟩ = some (.int .i64 (X k)) := by rw [hwr]; exact HR.out.2.2 k hlt
      have r2 : wr.cell? ⟨b', o' + k, none⟩ = some (.int .i64 (X k)) := by rw [hwr, ← HX.out k hlt]; exact HR'.out.2.2 k hlt
      clear hwr
      have i0 : (0 : Int) ≤ (k : Int) := by omega
      have i1 : (k : Int) < (n : Int) := by omega
      go_wp2_with fail
      go_quiet (fail)
      go_wp2_with fail
      go_roundw
      case rel => exact ⟨k + 1, by omega, by go_num, m + nq, by rw [HW.out, World.drewN_drewN]⟩
      case measure => simp [intOf]; omega
    · obtain rfl : k = n := by omega
      clear hwr
      go_wp2_with fail
      go_ret
      exact ⟨rfl, m, HW.out⟩
end Go.Proofs.Qxb6605248a
