/- THE PLAIN LAW: the nearest double to a whole number is monotone in the number. -/
import Derived.Test.Qxb6605212aFl
namespace Go.Proofs.Qxb6605212a.Fl
open Ieee

/-- round half to even, of n / 2 ^ d -/
def half (n d : Nat) : Nat := n / 2 ^ d + (decide (2 ^ d < 2 * (n % 2 ^ d)) || (2 ^ d == 2 * (n % 2 ^ d) && n / 2 ^ d % 2 == 1)).toNat

theorem cut_half (neg : Bool) (n d : Nat) (h : d ≤ n.log2 + 2) : Toward.even.cut neg n d = half n d := by
  unfold Toward.cut half
  simp only
  rw [Nat.min_eq_left h, Nat.one_shiftLeft]

theorem half_le (n d : Nat) : n / 2 ^ d ≤ half n d ∧ half n d ≤ n / 2 ^ d + 1 := by
  unfold half
  generalize (decide (2 ^ d < 2 * (n % 2 ^ d)) || (2 ^ d == 2 * (n % 2 ^ d) && n / 2 ^ d % 2 == 1)) = b
  cases b <;> simp

theorem half_mono (n m d : Nat) (h : n ≤ m) : half n d ≤ half m d := by
  have hp : 0 < 2 ^ d := Nat.two_pow_pos _
  have hq : n / 2 ^ d ≤ m / 2 ^ d := Nat.div_le_div_right h
  by_cases e : n / 2 ^ d = m / 2 ^ d
  · have h1 := Nat.div_add_mod n (2 ^ d)
    have h2 := Nat.div_add_mod m (2 ^ d)
    rw [e] at h1
    have hr : n % 2 ^ d ≤ m % 2 ^ d := by omega
    unfold half
    rw [e]
    generalize n % 2 ^ d = r at *
    generalize m % 2 ^ d = s at *
    generalize hP : 2 ^ d = P at *
    generalize hc : (m / P % 2 == 1) = c at *
    by_cases a1 : P < 2 * r
    · have a2 : P < 2 * s := by omega
      simp [a1, a2]
    · by_cases a3 : P = 2 * r
      · by_cases a4 : r = s
        · subst a4; exact Nat.le_refl _
        · have a2 : P < 2 * s := by omega
          have e1 : (decide (P < 2 * s)) = true := decide_eq_true a2
          rw [e1]
          have := Bool.toNat_le (decide (P < 2 * r) || (P == 2 * r && c))
          simp only [Bool.true_or, Bool.toNat_true]
          omega
      · have e1 : (P == 2 * r) = false := beq_eq_false_iff_ne.2 a3
        have e2 : decide (P < 2 * r) = false := decide_eq_false a1
        rw [e1, e2]
        simp
  · have := (half_le n d).2
    have := (half_le m d).1
    omega

/-- the significand that is kept of n, and the rung -/
def kept (n : Nat) : Nat := half (n * 2 ^ (52 - n.log2)) (n.log2 - 52)

theorem log2_bounds (n : Nat) (h : n ≠ 0) : 2 ^ n.log2 ≤ n ∧ n < 2 ^ (n.log2 + 1) :=
  ⟨Nat.log2_self_le h, Nat.lt_log2_self⟩

theorem kept_bounds (n : Nat) (h : n ≠ 0) : 2 ^ 52 ≤ kept n ∧ kept n ≤ 2 ^ 53 := by
  obtain ⟨h1, h2⟩ := log2_bounds n h
  unfold kept
  by_cases hl : n.log2 ≤ 52
  · have e : n.log2 - 52 = 0 := by omega
    have hh : ∀ x, half x 0 = x := by intro x; simp [half, Nat.mod_one]
    rw [e, hh]
    have p1 : 2 ^ 52 = 2 ^ n.log2 * 2 ^ (52 - n.log2) := by rw [← Nat.pow_add]; congr 1; omega
    have p2 : 2 ^ 53 = 2 ^ (n.log2 + 1) * 2 ^ (52 - n.log2) := by rw [← Nat.pow_add]; congr 1; omega
    rw [p1, p2]
    exact ⟨Nat.mul_le_mul_right _ h1, Nat.mul_le_mul_right _ (Nat.le_of_lt h2)⟩
  · have e : 52 - n.log2 = 0 := by omega
    rw [e, Nat.pow_zero, Nat.mul_one]
    have hq := half_le n (n.log2 - 52)
    have hp : 0 < 2 ^ (n.log2 - 52) := Nat.two_pow_pos _
    have b1 : 2 ^ 52 ≤ n / 2 ^ (n.log2 - 52) := by
      rw [Nat.le_div_iff_mul_le hp, ← Nat.pow_add, show 52 + (n.log2 - 52) = n.log2 by omega]
      exact h1
    have b2 : n / 2 ^ (n.log2 - 52) < 2 ^ 53 := by
      rw [Nat.div_lt_iff_lt_mul hp, ← Nat.pow_add, show 53 + (n.log2 - 52) = n.log2 + 1 by omega]
      exact h2
    exact ⟨Nat.le_trans b1 hq.1, by omega⟩

def rungOf (n : Nat) : Nat := if n = 0 then 0 else min ((n.log2 + 1022) * 2 ^ 52 + kept n) double.infRung

theorem nearest_double (n : Nat) : double.nearest false n 0 = double.word false (rungOf n) := by
  unfold Format.nearest rungOf
  by_cases h : n = 0
  · rw [if_pos h, if_pos h]
  · rw [if_neg h, if_neg h]
    dsimp only
    have e1 : max ((0 : Int) + (n.log2 : Int) - (double.fractionBits : Int)) double.leastPlace = (n.log2 : Int) - 52 := by
      have : double.leastPlace = -1074 := by decide
      rw [this]
      show max ((0 : Int) + (n.log2 : Int) - 52) (-1074) = _
      omega
    rw [e1]
    have e2 : ((0 : Int) - ((n.log2 : Int) - 52)).toNat = 52 - n.log2 := by omega
    have e3 : ((n.log2 : Int) - 52 - 0).toNat = n.log2 - 52 := by omega
    have e4 : ((n.log2 : Int) - 52 - double.leastPlace).toNat = n.log2 + 1022 := by
      have : double.leastPlace = -1074 := by decide
      rw [this]; omega
    rw [e2, e3, e4, Nat.shiftLeft_eq]
    have e5 : Toward.even.cut false (n * 2 ^ (52 - n.log2)) (n.log2 - 52) = kept n := by
      rw [cut_half]
      · rfl
      · by_cases hl : n.log2 ≤ 52
        · omega
        · have e : 52 - n.log2 = 0 := by omega
          rw [e, Nat.pow_zero, Nat.mul_one]; omega
    rw [e5]
    rfl

theorem log2_mono {n m : Nat} (hn : n ≠ 0) (h : n ≤ m) : n.log2 ≤ m.log2 := by
  rw [Nat.le_log2 (by omega)]
  exact Nat.le_trans (log2_bounds n hn).1 h

theorem rungOf_mono (n m : Nat) (h : n ≤ m) : rungOf n ≤ rungOf m := by
  unfold rungOf
  by_cases hn : n = 0
  · rw [if_pos hn]; exact Nat.zero_le _
  · rw [if_neg hn, if_neg (by omega)]
    have hl := log2_mono hn h
    have k1 := kept_bounds n hn
    have k2 := kept_bounds m (by omega)
    have main : (n.log2 + 1022) * 2 ^ 52 + kept n ≤ (m.log2 + 1022) * 2 ^ 52 + kept m := by
      by_cases e : n.log2 = m.log2
      · rw [e]
        refine Nat.add_le_add_left ?_ _
        unfold kept
        rw [e]
        exact half_mono _ _ _ (Nat.mul_le_mul_right _ h)
      · have h53 : (2 : Nat) ^ 53 = 2 * 2 ^ 52 := by decide
        have : n.log2 + 1 ≤ m.log2 := by omega
        have hm := Nat.mul_le_mul_right (2 ^ 52) (show n.log2 + 1022 + 1 ≤ m.log2 + 1022 by omega)
        rw [Nat.add_mul (n.log2 + 1022) 1] at hm
        omega
    omega

/-- THE KEY OF THE NEAREST DOUBLE TO A NATURAL NUMBER IS MONOTONE -/
theorem key_mono (n m : Nat) (h : n ≤ m) : key double (double.nearest false n 0) ≤ key double (double.nearest false m 0) := by
  have hr : ∀ k, rungOf k < double.signWeight := by
    intro k
    have := double.infRung_lt
    have h0 : 0 < double.signWeight := Nat.two_pow_pos _
    unfold rungOf
    split
    · exact h0
    · omega
  rw [nearest_double, nearest_double]
  unfold key
  rw [(rung_word double false _ (hr n)).1, (rung_word double false _ (hr n)).2, (rung_word double false _ (hr m)).1, (rung_word double false _ (hr m)).2]
  simp only [Bool.false_eq_true, if_false]
  have := val_le double.binade (binade_pos double) (rungOf_mono n m h)
  omega
end Go.Proofs.Qxb6605212a.Fl
