/- THE SECONDS SINCE: monotone; the same after a shift. -/
import Derived.Test.Qxb6605212aRev
import Derived.Test.Qxb6605212aMono
namespace Go.Proofs.Qxb6605212a
open Go.RowKit

/-- the difference as a natural number -/
def gapN (a b : Int) : Nat := ((b - a) % 18446744073709551616).toNat

theorem since_gapN (a b : Int) : since a b = Ieee.double.nearest false (gapN a b) 0 := by
  unfold since floatOfInt FloatKind.nearest FloatKind.encode gapN
  rw [IntKind.wrap_u64, IntKind.wrap_u64, IntKind.wrap_u64]
  have e : (b % 18446744073709551616 - a % 18446744073709551616) % 18446744073709551616 = (b - a) % 18446744073709551616 := by omega
  rw [e]
  have h0 : 0 ≤ (b - a) % 18446744073709551616 := by omega
  have h1 : decide ((b - a) % 18446744073709551616 < 0) = false := decide_eq_false (by omega)
  show Ieee.double.nearest (decide ((b - a) % 18446744073709551616 < 0)) ((b - a) % 18446744073709551616).natAbs 0 = _
  rw [h1]
  congr 1
  omega

theorem since_shift (a b a' b' : Int) (h : (b' - a') % 18446744073709551616 = (b - a) % 18446744073709551616) : since a' b' = since a b := by
  rw [since_gapN, since_gapN]
  unfold gapN
  rw [h]

theorem fgeq_key (x pe : Nat) (hx : Fl.ok Ieee.double x) : fgeq x pe = true ↔ Fl.ok Ieee.double pe ∧ Fl.key Ieee.double pe ≤ Fl.key Ieee.double x := by
  unfold fgeq
  show (Ieee.double.order x pe == some .gt || Ieee.double.order x pe == some .eq) = true ↔ _
  constructor
  · intro h
    rw [Bool.or_eq_true, beq_iff_eq, beq_iff_eq] at h
    have hp : Fl.ok Ieee.double pe := by
      rcases h with h | h
      · exact (Fl.ok_of_order _ (by decide) _ _ _ h).2
      · exact (Fl.ok_of_order _ (by decide) _ _ _ h).2
    refine ⟨hp, ?_⟩
    rw [Fl.order_key _ (by decide) _ _ hx hp] at h
    rcases Int.lt_trichotomy (Fl.key Ieee.double x) (Fl.key Ieee.double pe) with c | c | c
    · rw [Fl.cmp_lt c] at h; simp at h
    · omega
    · omega
  · rintro ⟨hp, hk⟩
    rw [Fl.order_key _ (by decide) _ _ hx hp]
    rcases Int.lt_trichotomy (Fl.key Ieee.double x) (Fl.key Ieee.double pe) with c | c | c
    · omega
    · rw [Fl.cmp_eq c]; rfl
    · rw [Fl.cmp_gt c]; rfl

/-- the nearer second has the fewer seconds behind it -/
theorem fgeq_mono (a a' b b' : Int) (pe : Nat) (h : gapN a' b' ≤ gapN a b) (hp : fgeq (since a' b') pe = true) : fgeq (since a b) pe = true := by
  rw [fgeq_key _ _ (ok_since _ _)] at hp ⊢
  refine ⟨hp.1, Int.le_trans hp.2 ?_⟩
  rw [since_gapN, since_gapN]
  exact Fl.key_mono _ _ h

/-- changes in time order, none after t: the search's question is monotone -/
theorem mono_of_domain (T : Nat → Int) (t : Int) (n pe : Nat) (ht : -9223372036854775808 ≤ t ∧ t ≤ 9223372036854775807) (hT : ∀ j, j < n → -9223372036854775808 ≤ T j ∧ T j ≤ 9223372036854775807)
    (h : ∀ j, j < n → T j ≤ t ∧ (0 < j → T (j - 1) ≤ T j)) : ∀ j k, j ≤ k → k < n → fgeq (since (T k) t) pe = true → fgeq (since (T j) t) pe = true := by
  have hle : ∀ d j, j + d < n → T j ≤ T (j + d) := by
    intro d
    induction d with
    | zero => intro j _; exact Int.le_refl _
    | succ d ih =>
      intro j hj
      have h1 := ih j (by omega)
      have h2 := (h (j + (d + 1)) (by omega)).2 (by omega)
      have e : j + (d + 1) - 1 = j + d := by omega
      rw [e] at h2
      omega
  intro j k hjk hk hp
  have h1 := hle (k - j) j (by omega)
  rw [show j + (k - j) = k by omega] at h1
  refine fgeq_mono _ _ _ _ pe ?_ hp
  have h2 := (h k hk).1
  have h3 := hT k hk
  have h4 := hT j (by omega)
  unfold gapN
  omega
end Go.Proofs.Qxb6605212a
