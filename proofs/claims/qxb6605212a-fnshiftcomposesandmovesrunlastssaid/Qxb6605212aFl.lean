/- THE PLAIN LAW ON FLOATS: no Go in sight. Words that are no NaN are ordered as their signed values; the nearest word to a whole number is monotone in the number. -/
import Ieee.Arith
import Derived.Laws.FloatBits
namespace Go.Proofs.Qxb6605212a.Fl
open Ieee

/-- what a rung stands for, in units of the least place -/
def val (B r : Nat) : Nat := if r < B then r else (B + r % B) * 2 ^ (r / B - 1)

theorem val_succ (B : Nat) (hB : 0 < B) (r : Nat) : val B r < val B (r + 1) := by
  unfold val
  by_cases h : r < B
  · rw [if_pos h]
    by_cases h1 : r + 1 < B
    · rw [if_pos h1]; omega
    · have e : r + 1 = B := by omega
      rw [if_neg h1, e, Nat.mod_self, Nat.div_self hB]; simp; omega
  · rw [if_neg h, if_neg (by omega)]
    have hq : 1 ≤ r / B := (Nat.le_div_iff_mul_le hB).2 (by omega)
    have hm : r % B < B := Nat.mod_lt _ hB
    have hr := Nat.div_add_mod r B
    by_cases h1 : r % B + 1 < B
    · have e1 : (r + 1) / B = r / B := by
        have : r + 1 = B * (r / B) + (r % B + 1) := by omega
        rw [this, Nat.mul_add_div hB, Nat.div_eq_of_lt h1]; omega
      have e2 : (r + 1) % B = r % B + 1 := by
        have : r + 1 = B * (r / B) + (r % B + 1) := by omega
        rw [this, Nat.mul_add_mod, Nat.mod_eq_of_lt h1]
      rw [e1, e2]
      exact Nat.mul_lt_mul_of_pos_right (by omega) (Nat.two_pow_pos _)
    · have h2 : r % B + 1 = B := by omega
      have h3 : r + 1 = B * (r / B + 1) := by rw [Nat.mul_add]; omega
      have e1 : (r + 1) / B = r / B + 1 := by rw [h3, Nat.mul_div_cancel_left _ hB]
      have e2 : (r + 1) % B = 0 := by rw [h3]; simp
      rw [e1, e2]
      obtain ⟨q, hq'⟩ : ∃ q, r / B = q + 1 := ⟨r / B - 1, by omega⟩
      rw [hq']
      simp only [Nat.add_sub_cancel]
      rw [Nat.pow_succ]
      have : (B + r % B) < B * 2 := by omega
      calc (B + r % B) * 2 ^ q < (B * 2) * 2 ^ q := Nat.mul_lt_mul_of_pos_right this (Nat.two_pow_pos _)
        _ = (B + 0) * (2 ^ q * 2) := by rw [Nat.add_zero, Nat.mul_assoc, Nat.mul_comm 2]

theorem val_lt (B : Nat) (hB : 0 < B) {a b : Nat} (h : a < b) : val B a < val B b := by
  induction b with
  | zero => omega
  | succ b ih =>
    by_cases e : a = b
    · subst e; exact val_succ B hB a
    · exact Nat.lt_trans (ih (by omega)) (val_succ B hB b)

theorem val_le (B : Nat) (hB : 0 < B) {a b : Nat} (h : a ≤ b) : val B a ≤ val B b := by
  rcases Nat.lt_or_eq_of_le h with h | h
  · exact Nat.le_of_lt (val_lt B hB h)
  · subst h; exact Nat.le_refl _

/-- the sign bit and the rung of a word -/
def sgn (f : Format) (x : Nat) : Bool := x / f.signWeight % 2 == 1
def rung (f : Format) (x : Nat) : Nat := x % f.signWeight

/-- the signed value of a word that is no NaN (an infinity: the value of its rung) -/
def key (f : Format) (x : Nat) : Int := if sgn f x then -(val f.binade (rung f x) : Int) else (val f.binade (rung f x) : Int)

theorem binade_pos (f : Format) : 0 < f.binade := Nat.two_pow_pos _

/-- a finite word: its magnitude and place -/
theorem read_finite (f : Format) (x : Nat) (h : rung f x < f.infRung) :
    ∃ m e : Nat, f.read x = .number (sgn f x) m (f.leastPlace + (e : Int)) ∧ m * 2 ^ e = val f.binade (rung f x) := by
  unfold Format.read
  simp only
  change ∃ m e : Nat, (if rung f x < f.binade then Datum.number (sgn f x) (rung f x) f.leastPlace
    else if rung f x < f.infRung then Datum.number (sgn f x) (f.binade + rung f x % f.binade) (f.leastPlace + ((rung f x / f.binade - 1 : Nat) : Int))
    else if rung f x = f.infRung then Datum.infinity (sgn f x) else Datum.nan (sgn f x) (rung f x - f.infRung)) = _ ∧ _
  by_cases hb : rung f x < f.binade
  · exact ⟨rung f x, 0, by rw [if_pos hb]; simp, by simp [val, hb]⟩
  · exact ⟨f.binade + rung f x % f.binade, rung f x / f.binade - 1, by rw [if_neg hb, if_pos h], by simp [val, hb]⟩

theorem binade_le_infRung (f : Format) (hf : 1 ≤ f.exponentBits) : f.binade ≤ f.infRung := by
  have h2 : 2 ≤ 2 ^ f.exponentBits := by
    calc 2 = 2 ^ 1 := rfl
      _ ≤ 2 ^ f.exponentBits := Nat.pow_le_pow_right (by omega) hf
  unfold Format.infRung
  exact Nat.le_mul_of_pos_left _ (by omega)

theorem read_inf (f : Format) (hf : 1 ≤ f.exponentBits) (x : Nat) (h : rung f x = f.infRung) : f.read x = .infinity (sgn f x) := by
  have hb := binade_le_infRung f hf
  unfold Format.read
  simp only
  change (if rung f x < f.binade then Datum.number (sgn f x) (rung f x) f.leastPlace
    else if rung f x < f.infRung then Datum.number (sgn f x) (f.binade + rung f x % f.binade) (f.leastPlace + ((rung f x / f.binade - 1 : Nat) : Int))
    else if rung f x = f.infRung then Datum.infinity (sgn f x) else Datum.nan (sgn f x) (rung f x - f.infRung)) = _
  rw [if_neg (by omega), if_neg (by omega), if_pos h]

theorem read_nan (f : Format) (hf : 1 ≤ f.exponentBits) (x : Nat) (h : f.infRung < rung f x) : f.read x = .nan (sgn f x) (rung f x - f.infRung) := by
  have hb := binade_le_infRung f hf
  unfold Format.read
  simp only
  change (if rung f x < f.binade then Datum.number (sgn f x) (rung f x) f.leastPlace
    else if rung f x < f.infRung then Datum.number (sgn f x) (f.binade + rung f x % f.binade) (f.leastPlace + ((rung f x / f.binade - 1 : Nat) : Int))
    else if rung f x = f.infRung then Datum.infinity (sgn f x) else Datum.nan (sgn f x) (rung f x - f.infRung)) = _
  rw [if_neg (by omega), if_neg (by omega), if_neg (by omega)]

def sg (s : Bool) (n : Nat) : Int := if s then -(n : Int) else (n : Int)

theorem signed_eq (s : Bool) (m e : Nat) : signed s m e = sg s (m * 2 ^ e) := by
  unfold signed sg
  rw [Nat.shiftLeft_eq]

theorem sg_mul (s : Bool) (m k : Nat) : sg s (m * k) = sg s m * (k : Int) := by
  unfold sg
  cases s <;> simp [Int.natCast_mul, Int.neg_mul]

theorem compare_mul (a b : Int) (k : Nat) (hk : 0 < k) : compare (a * (k : Int)) (b * (k : Int)) = compare a b := by
  have hk' : (0 : Int) < (k : Int) := by omega
  simp only [compare, compareOfLessAndEq]
  by_cases h1 : a < b
  · rw [if_pos h1, if_pos (Int.mul_lt_mul_of_pos_right h1 hk')]
  · rw [if_neg h1]
    have h2 : ¬ a * (k : Int) < b * (k : Int) := by
      intro h; exact h1 (Int.lt_of_mul_lt_mul_right h (by omega))
    rw [if_neg h2]
    by_cases h3 : a = b
    · rw [if_pos h3, if_pos (by rw [h3])]
    · rw [if_neg h3, if_neg (fun h => h3 (Int.eq_of_mul_eq_mul_right (by omega) h))]

theorem order_finite (L : Int) (s t : Bool) (m n e1 e2 : Nat) :
    Datum.order (.number s m (L + (e1 : Int))) (.number t n (L + (e2 : Int))) = some (compare (sg s (m * 2 ^ e1)) (sg t (n * 2 ^ e2))) := by
  unfold Datum.order
  simp only
  congr 1
  rw [signed_eq, signed_eq]
  generalize hk : min e1 e2 = k
  have h1 : (L + (e1 : Int) - min (L + (e1 : Int)) (L + (e2 : Int))).toNat = e1 - k := by omega
  have h2 : (L + (e2 : Int) - min (L + (e1 : Int)) (L + (e2 : Int))).toNat = e2 - k := by omega
  rw [h1, h2]
  have p1 : m * 2 ^ e1 = m * 2 ^ (e1 - k) * 2 ^ k := by
    rw [Nat.mul_assoc, ← Nat.pow_add]; congr 2; omega
  have p2 : n * 2 ^ e2 = n * 2 ^ (e2 - k) * 2 ^ k := by
    rw [Nat.mul_assoc, ← Nat.pow_add]; congr 2; omega
  rw [p1, p2, sg_mul s _ (2 ^ k), sg_mul t _ (2 ^ k), compare_mul _ _ _ (Nat.two_pow_pos _)]

theorem key_eq (f : Format) (x : Nat) : key f x = sg (sgn f x) (val f.binade (rung f x)) := rfl

theorem cmp_lt {a b : Int} (h : a < b) : compare a b = .lt := by
  simp only [compare, compareOfLessAndEq]; rw [if_pos h]
theorem cmp_gt {a b : Int} (h : b < a) : compare a b = .gt := by
  simp only [compare, compareOfLessAndEq]; rw [if_neg (by omega), if_neg (by omega)]
theorem cmp_eq {a b : Int} (h : a = b) : compare a b = .eq := by
  simp only [compare, compareOfLessAndEq]; rw [if_neg (by omega), if_pos h]

/-- THE ORDER OF WORDS THAT ARE NO NaN -/
theorem order_key (f : Format) (hf : 1 ≤ f.exponentBits) (x y : Nat) (hx : rung f x ≤ f.infRung) (hy : rung f y ≤ f.infRung) :
    f.order x y = some (compare (key f x) (key f y)) := by
  have hB := binade_pos f
  unfold Format.order
  rw [key_eq, key_eq]
  rcases Nat.lt_or_eq_of_le hx with hx | hx <;> rcases Nat.lt_or_eq_of_le hy with hy | hy
  · obtain ⟨m, e1, h1, v1⟩ := read_finite f x hx
    obtain ⟨n, e2, h2, v2⟩ := read_finite f y hy
    rw [h1, h2, order_finite, v1, v2]
  · obtain ⟨m, e1, h1, v1⟩ := read_finite f x hx
    have hv := val_lt f.binade hB hx
    rw [h1, read_inf f hf y hy, hy]
    simp only [Datum.order]
    congr 1
    generalize val f.binade (rung f x) = a at *
    generalize val f.binade f.infRung = b at *
    cases sgn f x <;> cases sgn f y <;> simp only [sg, if_true, if_false, Bool.false_eq_true]
    · exact (cmp_lt (by omega)).symm
    · exact (cmp_gt (by omega)).symm
    · exact (cmp_lt (by omega)).symm
    · exact (cmp_gt (by omega)).symm
  · obtain ⟨m, e1, h1, v1⟩ := read_finite f y hy
    have hv := val_lt f.binade hB hy
    rw [h1, read_inf f hf x hx, hx]
    simp only [Datum.order]
    congr 1
    generalize val f.binade (rung f y) = a at *
    generalize val f.binade f.infRung = b at *
    cases sgn f x <;> cases sgn f y <;> simp only [sg, if_true, if_false, Bool.false_eq_true]
    · exact (cmp_gt (by omega)).symm
    · exact (cmp_gt (by omega)).symm
    · exact (cmp_lt (by omega)).symm
    · exact (cmp_lt (by omega)).symm
  · rw [read_inf f hf x hx, read_inf f hf y hy, hx, hy]
    have hv : 0 < val f.binade f.infRung := by
      have := val_lt f.binade hB (a := 0) (b := f.infRung) (by have := binade_le_infRung f hf; omega)
      omega
    simp only [Datum.order]
    congr 1
    generalize val f.binade f.infRung = b at *
    cases sgn f x <;> cases sgn f y <;> simp only [sg, if_true, if_false, Bool.false_eq_true]
    · exact (cmp_eq rfl).symm
    · exact (cmp_gt (by omega)).symm
    · exact (cmp_lt (by omega)).symm
    · exact (cmp_eq rfl).symm

/-! ### the words that rounding gives -/
theorem rung_word (f : Format) (neg : Bool) (r : Nat) (h : r < f.signWeight) : rung f (f.word neg r) = r ∧ sgn f (f.word neg r) = neg := by
  have hp : 0 < f.signWeight := Nat.two_pow_pos _
  unfold rung sgn Format.word
  cases neg
  · simp only [Bool.false_eq_true, if_false]
    exact ⟨Nat.mod_eq_of_lt h, by rw [Nat.div_eq_of_lt h]; rfl⟩
  · simp only [if_true]
    refine ⟨by rw [Nat.add_mod_left, Nat.mod_eq_of_lt h], ?_⟩
    rw [Nat.add_comm, Nat.add_div_right _ hp, Nat.div_eq_of_lt h]; rfl

theorem nearest_rung (f : Format) (neg : Bool) (m : Nat) (p : Int) : rung f (f.nearest neg m p) ≤ f.infRung ∧ sgn f (f.nearest neg m p) = neg := by
  have h := f.infRung_lt
  unfold Format.nearest
  split
  · have := rung_word f neg 0 (by omega)
    exact ⟨by rw [this.1]; omega, this.2⟩
  · dsimp only
    have := rung_word f neg (min ((max (p + (m.log2 : Int) - (f.fractionBits : Int)) f.leastPlace - f.leastPlace).toNat * f.binade + Toward.even.cut neg (m <<< (p - max (p + (m.log2 : Int) - (f.fractionBits : Int)) f.leastPlace).toNat) (max (p + (m.log2 : Int) - (f.fractionBits : Int)) f.leastPlace - p).toNat) f.infRung) (by omega)
    exact ⟨by rw [this.1]; omega, this.2⟩

/-- no NaN -/
def ok (f : Format) (x : Nat) : Prop := rung f x ≤ f.infRung

theorem ok_of_order (f : Format) (hf : 1 ≤ f.exponentBits) (x y : Nat) (o : Ordering) (h : f.order x y = some o) : ok f x ∧ ok f y := by
  unfold ok
  refine ⟨?_, ?_⟩
  · refine Nat.le_of_not_lt fun hx => ?_
    unfold Format.order at h
    rw [read_nan f hf x hx] at h
    simp [Datum.order] at h
  · refine Nat.le_of_not_lt fun hy => ?_
    unfold Format.order at h
    rw [read_nan f hf y hy] at h
    cases hx : f.read x <;> rw [hx] at h <;> simp [Datum.order] at h

/-- the sum of two words that are no NaN and not below nought is a word, no NaN -/
theorem add_ok (f : Format) (hf : 1 ≤ f.exponentBits) (x y z : Nat) (hz : f.read z = .number false 0 f.leastPlace) (ox oy : Ordering) (hx : f.order x z = some ox) (hx' : ox ≠ .lt) (hy : f.order y z = some oy) (hy' : oy ≠ .lt) :
    ∃ s, f.add x y = some s ∧ ok f s := by
  have okx := (ok_of_order f hf x z ox hx).1
  have oky := (ok_of_order f hf y z oy hy).1
  have hinf : ∀ d : Datum, d.isNaN = false → ok f (f.write d) := by
    intro d hd
    cases d with
    | number s m p => exact (nearest_rung f s m p).1
    | infinity s =>
      have := rung_word f s f.infRung f.infRung_lt
      unfold ok; show rung f (f.word s f.infRung) ≤ _; rw [this.1]; exact Nat.le_refl _
    | nan s t => simp [Datum.isNaN] at hd
  have pos : ∀ w o, ok f w → f.order w z = some o → o ≠ .lt → (∃ s m p, f.read w = .number s m p) ∨ f.read w = .infinity false := by
    intro w o hw ho hne
    unfold ok at hw
    rcases Nat.lt_or_eq_of_le hw with h | h
    · obtain ⟨m, e, h1, _⟩ := read_finite f w h
      exact .inl ⟨_, _, _, h1⟩
    · right
      have hr := read_inf f hf w h
      unfold Format.order at ho
      rw [hr, hz] at ho
      simp only [Datum.order, Option.some.injEq] at ho
      rw [hr]
      cases hs : sgn f w
      · rfl
      · rw [hs] at ho; simp at ho; exact absurd ho.symm hne
  unfold Format.add
  rcases pos x ox okx hx hx' with ⟨s1, m1, p1, e1⟩ | e1 <;> rcases pos y oy oky hy hy' with ⟨s2, m2, p2, e2⟩ | e2 <;> rw [e1, e2] <;>
    simp only [Datum.sum, if_true, Option.map_some] <;> exact ⟨_, rfl, hinf _ rfl⟩

end Go.Proofs.Qxb6605212a.Fl
