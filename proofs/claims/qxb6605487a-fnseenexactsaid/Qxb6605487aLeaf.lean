/- Leaf walks of the road of FnSeenExact. -/
import Derived.Test.Qxb6605487aProg
import Derived.WalkKit
import Derived.WalkSpells
import Derived.WalkLawsBesides
import Derived.Deep.QuietTactic
import Derived.BigQuiet
import Derived.Deep.DeepCutAuto
import Derived.Deep.OwnRows
import Derived.Deep.LoopGhost
import Derived.Deep.RegionHeld3
set_option linter.unusedVariables false
namespace Go.Proofs.Qxb6605487a
open Go.RowKit

/-- a fresh zero ReadView at block b -/
def zeroView (w : World) (b : Nat) : Prop := w.cell? ⟨b, 0, none⟩ = some (.int .u64 0) ∧ w.cell? ⟨b, 1, none⟩ = some (.slice none 0 0) ∧ w.cell? ⟨b, 2, none⟩ = some (.int .u64 0)

set_option maxHeartbeats 400000 in
theorem visible17 (b : Nat) (c : Int) (w : World) (h : zeroView w b) (hc : 0 ≤ c) :
    Calls Try.prog 17 #[.pointer (some ⟨b, 0, none⟩), .int .u64 c] w fun e w' => e = .returned (.bool (c == 0)) ∧ w' = w := by
  obtain ⟨h0, h1, h2⟩ := h
  cases hz : (c == 0)
  · have hc0 : ¬ c = 0 := by simpa using hz
    go_enter Try.func17, Try.ntmps17
    go_wp2
    go_ret
    exact ⟨rfl, rfl⟩
  · go_enter Try.func17, Try.ntmps17
    go_wp2
    go_ret
    exact ⟨rfl, rfl⟩

/-- the first visible index at or behind n - d -/
def firstV (vis : Nat → Bool) (n : Nat) : Nat → Option Nat
  | 0 => none
  | d + 1 => if vis (n - (d + 1)) = true then some (n - (d + 1)) else firstV vis n d

/-- the pointer to node i, nil behind the last -/
def nodeP (g n i : Nat) : Option Addr := if i < n then some ⟨g, i * 4, none⟩ else none

/-- n nodes in block g -/
def nodes (w : World) (g n : Nat) (V : Nat → Value) (D : Nat → Bool) (C : Nat → Int) : Prop :=
  ∀ i, i < n → w.cell? ⟨g, i * 4, none⟩ = some (V i) ∧ w.cell? ⟨g, i * 4 + 1, none⟩ = some (.bool (D i)) ∧ w.cell? ⟨g, i * 4 + 2, none⟩ = some (.int .u64 (C i)) ∧
    w.cell? ⟨g, i * 4 + 3, none⟩ = some (.pointer (nodeP g n (i + 1)))

set_option maxHeartbeats 1000000 in
theorem find16 (b g n : Nat) (V : Nat → Value) (D : Nat → Bool) (C : Nat → Int) (w : World) (hv : zeroView w b) (hn : nodes w g n V D C) (hC : ∀ i, i < n → 0 ≤ C i) (p : Option Addr) (hp : p = nodeP g n 0) :
    Calls Try.prog 16 #[.pointer (some ⟨b, 0, none⟩), .pointer p] w fun e w' => e = .returned (.pointer ((firstV (fun i => C i == 0) n n).map fun i => ⟨g, i * 4, none⟩)) ∧ w' = w := by
  have HV : Hid (zeroView w b) := hv
  have HN : Hid (nodes w g n V D C) := hn
  have HC : Hid (∀ i, i < n → 0 ≤ C i) := hC
  have HP : Hid (p = nodeP g n 0) := hp
  clear hv hn hC hp
  go_enter Try.func16, Try.ntmps16
  go_wp2_with fail
  go_loopg [1] n (fun d q wr => ∃ qa : Option Addr, d ≤ n ∧ q = .pointer qa ∧ Hid (qa = nodeP g n (n - d)) ∧ Hid (firstV (fun i => C i == 0) n n = firstV (fun i => C i == 0) n d) ∧ Hid (wr = w))
  case atStart => exact ⟨p, Nat.le_refl _, rfl, by rw [Nat.sub_self]; exact HP, rfl, rfl⟩
  case round =>
    obtain ⟨qa, hd, rfl, HQ, HF, HW⟩ := hrel
    cases gk with
    | zero =>
      obtain rfl : qa = none := by have := HQ.out; rw [this]; simp [nodeP]
      go_wp2_with fail
      go_ret
      refine ⟨?_, HW.out⟩
      rw [HF.out]
      rfl
    | succ d =>
      have hlt : n - (d + 1) < n := by omega
      obtain rfl : qa = some ⟨g, (n - (d + 1)) * 4, none⟩ := by have := HQ.out; rw [this]; simp [nodeP, hlt]
      obtain ⟨r0, r1, r2, r3⟩ := HN.out (n - (d + 1)) hlt
      rw [← HW.out] at r0 r1 r2 r3
      have hv : zeroView wr b := by rw [HW.out]; exact HV.out
      have hc := HC.out (n - (d + 1)) hlt
      have HI : Hid (n - (d + 1) + 1 = n - d) := by show _ = _; omega
      generalize n - (d + 1) = i at *
      cases hz : (C i == 0)
      · go_wp2_with fail
        refine (visible17 b (C i) wr hv hc).mono ?_
        rintro e w' ⟨rfl, hw⟩
        obtain rfl := hw.symm
        clear hw
        rw [hz]
        go_wp2_with fail
        go_roundg d
        case measure => omega
        case rel =>
          refine ⟨nodeP g n (i + 1), by omega, rfl, ?_, ?_, HW⟩
          · show _ = _
            rw [HI.out]
          · show _ = _
            rw [HF.out]
            have hi : n - (d + 1) = i := by have := HI.out; omega
            simp only [firstV]
            rw [hi]
            exact if_neg (by simp [hz])
      · go_wp2_with fail
        refine (visible17 b (C i) wr hv hc).mono ?_
        rintro e w' ⟨rfl, hw⟩
        obtain rfl := hw.symm
        clear hw
        rw [hz]
        go_wp2_with fail
        go_ret
        refine ⟨?_, HW.out⟩
        rw [HF.out]
        have hi : n - (d + 1) = i := by have := HI.out; omega
        simp only [firstV]
        rw [hi, if_pos (by simpa using hz)]
        rfl
end Go.Proofs.Qxb6605487a
