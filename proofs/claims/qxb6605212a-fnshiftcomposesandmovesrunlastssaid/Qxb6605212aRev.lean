/- THE PLAIN LAW OF THE REVERSALS: the run as add leaves it is the backward chain. No Go in sight but the floats' order. -/
import Derived.Test.Qxb6605212aLeaf
import Derived.Test.Qxb6605212aFl
namespace Go.Proofs.Qxb6605212a
open Go.RowKit

theorem ok_since (a b : Int) : Fl.ok Ieee.double (since a b) := (Fl.nearest_rung Ieee.double _ _ _).1
theorem ok_sixty : Fl.ok Ieee.double sixty := by unfold Fl.ok; decide +kernel

def flt (a b : Nat) : Bool := FloatKind.f64.format.order a b == some .lt

theorem gap_law (s x : Nat) (hs : Fl.ok Ieee.double s) (hx : Fl.ok Ieee.double x) : fgeq x (gmax s) = !flt x (gapIf s) := by
  have ok60 := ok_sixty
  have k1 : Ieee.double.order s sixty = some (compare (Fl.key Ieee.double s) (Fl.key Ieee.double sixty)) := Fl.order_key _ (by decide) _ _ hs ok60
  have kx : ∀ y, Fl.ok Ieee.double y → FloatKind.f64.format.order x y = some (compare (Fl.key Ieee.double x) (Fl.key Ieee.double y)) := fun y hy => Fl.order_key _ (by decide) _ _ hx hy
  have main : ∀ y z, Fl.ok Ieee.double y → Fl.ok Ieee.double z → Fl.key Ieee.double y = Fl.key Ieee.double z → fgeq x y = !flt x z := by
    intro y z hy hz hk
    unfold fgeq flt
    rw [kx y hy, kx z hz, hk]
    cases compare (Fl.key Ieee.double x) (Fl.key Ieee.double z) <;> rfl
  unfold gmax gapIf
  rw [k1]
  rcases Int.lt_trichotomy (Fl.key Ieee.double s) (Fl.key Ieee.double sixty) with h | h | h
  · rw [Fl.cmp_lt h]; exact main _ _ ok60 ok60 rfl
  · rw [Fl.cmp_eq h]
    by_cases hn : (Ieee.double.read s).neg = true
    · simp only [hn, if_true]; exact main _ _ ok60 ok60 rfl
    · simp only [hn]; exact main _ _ hs ok60 h
  · rw [Fl.cmp_gt h]; exact main _ _ hs hs rfl

section
variable (ts fs os : Nat → Int) (g : Nat)

def chg (k : Nat) : Bool := !(fs k == os k)
def ris (k : Nat) : Bool := decide (fs k < os k)
def brk (g : Nat) (j f : Nat) : Bool := (ris fs os j == ris fs os f) || !flt (since (ts j) (ts f)) g

/-- the backward walk from the change f on, j places left: how many changes more, and the first of them -/
def chain (g : Nat) : Nat → Nat → Nat × Nat
  | 0, f => (0, f)
  | j + 1, f => if chg fs os j = false then chain g j f else if brk ts fs os g j f = true then (0, f) else ((chain g j j).1 + 1, (chain g j j).2)

def lastIdx : Nat → Option Nat
  | 0 => none
  | k + 1 => if chg fs os k = true then some k else lastIdx k

theorem lastIdx_lt : ∀ k p, lastIdx fs os k = some p → p < k
  | 0, p, h => by simp [lastIdx] at h
  | k + 1, p, h => by
    unfold lastIdx at h
    split at h
    · simp at h; omega
    · have := lastIdx_lt k p h; omega

theorem lastIdx_chg : ∀ k p, lastIdx fs os k = some p → chg fs os p = true
  | 0, p, h => by simp [lastIdx] at h
  | k + 1, p, h => by
    unfold lastIdx at h
    split at h
    · rename_i hc; simp at h; subst h; exact hc
    · exact lastIdx_chg k p h

theorem chain_skip (f : Nat) : ∀ k, chain ts fs os g k f = match lastIdx fs os k with
    | none => (0, f)
    | some p => if brk ts fs os g p f = true then (0, f) else ((chain ts fs os g p p).1 + 1, (chain ts fs os g p p).2)
  | 0 => by simp [chain, lastIdx]
  | k + 1 => by
    by_cases hc : chg fs os k = true
    · simp [chain, lastIdx, hc]
    · have hc' : chg fs os k = false := by simpa using hc
      rw [chain, lastIdx, if_pos hc', if_neg hc]
      exact chain_skip f k

theorem chain_le : ∀ j f, (chain ts fs os g j f).1 ≤ j
  | 0, f => by simp [chain]
  | j + 1, f => by
    rw [chain]
    have h1 := chain_le j f
    have h2 := chain_le j j
    split
    · omega
    · split
      · simp
      · simp; omega

theorem chain_fst_lt : ∀ j f, (chain ts fs os g j f).2 < j ∨ (chain ts fs os g j f).2 = f
  | 0, f => by simp [chain]
  | j + 1, f => by
    rw [chain]
    have h1 := chain_fst_lt j f
    have h2 := chain_fst_lt j j
    split
    · omega
    · split
      · simp
      · simp; omega

theorem lastIdx_after : ∀ n, (∀ k, k < n → (∀ p, lastIdx fs os n = some p → p < k) → chg fs os k = false)
  | 0, k, h, _ => by omega
  | n + 1, k, h, hp => by
    by_cases hc : chg fs os n = true
    · rw [lastIdx, if_pos hc] at hp
      have := hp n rfl
      omega
    · have hc' : chg fs os n = false := by simpa using hc
      rw [lastIdx, if_neg hc] at hp
      by_cases e : k = n
      · subst e; exact hc'
      · exact lastIdx_after n k (by omega) hp

/-- the run as a backward walk tells it -/
def backward (k : Nat) : RS :=
  match lastIdx fs os k with
  | none => ⟨0, 0, 0, false, false⟩
  | some p => ⟨1 + ((chain ts fs os g p p).1 : Int), ts (chain ts fs os g p p).2, ts p, ris fs os p, decide (p + 1 = k) && ((1 + ((chain ts fs os g p p).1 : Int)) == 6)⟩

/-- one decision more -/
theorem backward_step (G : Nat) (hG : ∀ a b, fgeq (since a b) G = !flt (since a b) g) (k : Nat) :
    (backward ts fs os g k).add G (ts k) (fs k) (os k) = backward ts fs os g (k + 1) := by
  unfold RS.add
  by_cases hc : fs k = os k
  · have hc' : chg fs os k = false := by simp [chg, hc]
    rw [if_pos hc]
    unfold backward
    rw [lastIdx, if_neg (by simp [hc'])]
    cases hl : lastIdx fs os k with
    | none => rfl
    | some p =>
      have := lastIdx_lt fs os k p hl
      have e : decide (p + 1 = k + 1) = false := decide_eq_false (by omega)
      simp only [e, Bool.false_and]
  · have hc' : chg fs os k = true := by simp [chg, hc]
    rw [if_neg hc]
    have hb1 : backward ts fs os g (k + 1) = ⟨1 + ((chain ts fs os g k k).1 : Int), ts (chain ts fs os g k k).2, ts k, ris fs os k, ((1 + ((chain ts fs os g k k).1 : Int)) == 6)⟩ := by
      unfold backward
      rw [lastIdx, if_pos hc']
      simp
    rw [hb1]
    have hs := chain_skip ts fs os g k k
    unfold backward
    cases hl : lastIdx fs os k with
    | none =>
      rw [hl] at hs
      simp only at hs
      rw [hs]
      simp [ris]
    | some p =>
      rw [hl] at hs
      simp only at hs
      simp only
      by_cases hbk : brk ts fs os g p k = true
      · rw [if_pos hbk] at hs
        rw [hs]
        have hcond : (1 + ((chain ts fs os g p p).1 : Int) = 0 ∨ decide (fs k < os k) = ris fs os p ∨ fgeq (since (ts p) (ts k)) G = true) := by
          right
          unfold brk at hbk
          rw [Bool.or_eq_true] at hbk
          rcases hbk with h | h
          · left; have := eq_of_beq h; exact this.symm
          · right; rw [hG]; exact h
        rw [if_pos hcond]
        simp [ris]
      · rw [if_neg hbk] at hs
        rw [hs]
        have hcond : ¬ (1 + ((chain ts fs os g p p).1 : Int) = 0 ∨ decide (fs k < os k) = ris fs os p ∨ fgeq (since (ts p) (ts k)) G = true) := by
          rintro (h | h | h)
          · omega
          · exact hbk (by unfold brk; rw [Bool.or_eq_true]; left; rw [beq_iff_eq]; exact h.symm)
          · exact hbk (by unfold brk; rw [Bool.or_eq_true]; right; rw [← hG]; exact h)
        rw [if_neg hcond]
        have e : (1 + ((chain ts fs os g p p).1 : Int) + 1) = 1 + (((chain ts fs os g p p).1 + 1 : Nat) : Int) := by omega
        simp only [e, ris]

theorem backward_c (k : Nat) : 0 ≤ (backward ts fs os g k).c ∧ (backward ts fs os g k).c ≤ k := by
  unfold backward
  cases hl : lastIdx fs os k with
  | none => simp
  | some p =>
    have h1 := lastIdx_lt fs os k p hl
    have h2 := chain_le ts fs os g p p
    simp only
    omega
end
end Go.Proofs.Qxb6605212a
