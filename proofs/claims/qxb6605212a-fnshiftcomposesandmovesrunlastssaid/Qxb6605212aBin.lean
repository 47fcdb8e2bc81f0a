/- THE LIBRARY's BinarySearchFunc over points, and changes.at. -/
import Derived.Test.Qxb6605212aSearch
namespace Go.Proofs.Qxb6605212a
open Go.RowKit

set_option maxHeartbeats 1000000 in
theorem search30 (a : Option Addr) (g o n c : Nat) (T N : Nat → Int) (t : Int) (pe bp : Nat) (w : World) (hn : n ≤ 65536) (ha : 0 < n → a = some ⟨g, o, none⟩) (h : pts w g o n T N) (hbp : w.cell? ⟨bp, 0, none⟩ = some (.float .f64 pe))
    (hmono : Hid (∀ j k, j ≤ k → k < n → fgeq (since (T k) t) pe = true → fgeq (since (T j) t) pe = true)) :
    Calls Try.prog 30 #[.slice a n c, .int .i64 t, .func (.func 31) #[] #[.pointer (some ⟨bp, 0, none⟩)]] w fun e w' => ∃ i : Nat, ∃ f : Bool, e = .returned (.tuple #[.int .i64 i, .bool f]) ∧ i ≤ n ∧ (∀ j, j < i → fgeq (since (T j) t) pe = true) ∧ (∀ j, i ≤ j → j < n → fgeq (since (T j) t) pe = false) ∧ Below w.heap.size w w' := by
  have HA : Hid (0 < n → a = some ⟨g, o, none⟩) := ha
  clear ha
  go_enter Try.func30, Try.ntmps30
  go_wp2_with fail
  go_loopw [9, 10] (fun i j wr => ∃ lo hi : Nat, lo ≤ hi ∧ hi ≤ n ∧ i = .int .i64 lo ∧ j = .int .i64 hi ∧ Hid (∀ j, j < lo → fgeq (since (T j) t) pe = true) ∧ Hid (∀ j, hi ≤ j → j < n → fgeq (since (T j) t) pe = false) ∧ Below w.heap.size w wr) (fun i j _ => (intOf j - intOf i).toNat)
  case atStart => exact ⟨0, n, Nat.zero_le _, Nat.le_refl _, rfl, rfl, fun j hj => by omega, fun j h1 h2 => by omega, Below.refl _ _⟩
  case round =>
    obtain ⟨lo, hi, h1, h2, rfl, rfl, HL, HH, hbel⟩ := hrel
    by_cases hlt : lo < hi
    · obtain rfl := HA.out (by omega)
      have rp : wr.cell? ⟨bp, 0, none⟩ = some (.float .f64 pe) := cell_later hbel hbp
      go_upto_region 5 with fail
      obtain ⟨m, hm, m1, m2⟩ : ∃ m : Nat, ((lo : Int) + (hi : Int)) / 2 = (m : Int) ∧ lo ≤ m ∧ m < hi := ⟨(lo + hi) / 2, by omega, by omega, by omega⟩
      rw [hm]
      clear hm
      have r1 : wr.cell? ⟨g, o + m * 2, none⟩ = some (.int .i64 (T m)) := cell_later hbel (h m (by omega)).1
      have r2 : wr.cell? ⟨g, o + m * 2 + 1, none⟩ = some (.int .i64 (N m)) := cell_later hbel (h m (by omega)).2
      have i0 : (0 : Int) ≤ (m : Int) := by omega
      have i1 : (m : Int) < (n : Int) := by omega
      go_wp2_with fail
      refine (closure31 (T m) (N m) t pe bp wr rp).mono ?_
      rintro e w2 ⟨rfl, hb2⟩
      have hbel2 : Below w.heap.size w w2 := hbel.trans (hb2.mono hbel.size)
      clear hbel hb2 r1 r2 rp
      cases hp : fgeq (since (T m) t) pe
      · simp only [cmpOf]
        go_wp2_with fail
        go_roundw
        case rel =>
          refine ⟨lo, m, m1, by omega, rfl, rfl, HL, ?_, hbel2⟩
          intro j h1 h2
          cases hj : fgeq (since (T j) t) pe
          · rfl
          · have := hmono.out m j h1 h2 hj
            rw [hp] at this
            exact absurd this (by simp)
        case measure => simp [intOf]; omega
      · simp only [cmpOf]
        go_wp2_with fail
        go_roundw
        case rel =>
          refine ⟨m + 1, hi, by omega, h2, by go_num, rfl, ?_, HH, hbel2⟩
          intro j h1
          exact hmono.out j m (by omega) (by omega) hp
        case measure => simp [intOf]; omega
    · obtain rfl : lo = hi := by omega
      clear hlt h1
      by_cases hln : lo < n
      · obtain rfl := HA.out (by omega)
        have rp : wr.cell? ⟨bp, 0, none⟩ = some (.float .f64 pe) := cell_later hbel hbp
        have r1 : wr.cell? ⟨g, o + lo * 2, none⟩ = some (.int .i64 (T lo)) := cell_later hbel (h lo (by omega)).1
        have r2 : wr.cell? ⟨g, o + lo * 2 + 1, none⟩ = some (.int .i64 (N lo)) := cell_later hbel (h lo (by omega)).2
        have i0 : (0 : Int) ≤ (lo : Int) := by omega
        have i1 : (lo : Int) < (n : Int) := by omega
        go_wp2_with fail
        refine (closure31 (T lo) (N lo) t pe bp wr rp).mono ?_
        rintro e w2 ⟨rfl, hb2⟩
        have hbel2 : Below w.heap.size w w2 := hbel.trans (hb2.mono hbel.size)
        clear hbel hb2 r1 r2 rp
        go_wp2_with fail
        go_ret2
        exact ⟨lo, _, rfl, h2, HL.out, HH.out, hbel2⟩
      · go_wp2_with fail
        go_ret2
        exact ⟨lo, _, rfl, h2, HL.out, HH.out, hbel⟩
theorem scan_search (T N : Nat → Int) (bf t : Int) (pe i : Nat) (h1 : ∀ j, j < i → fgeq (since (T j) t) pe = true) : ∀ n, i ≤ n → (∀ j, i ≤ j → j < n → fgeq (since (T j) t) pe = false) → scan T N bf t pe n = if i = 0 then bf else N (i - 1)
  | 0, hi, _ => by
    obtain rfl : i = 0 := by omega
    rfl
  | n + 1, hi, h2 => by
    by_cases e : i = n + 1
    · subst e
      have := h1 n (by omega)
      rw [if_neg (by omega)]
      simp [scan, this]
    · have := h2 n (by omega) (by omega)
      have ih := scan_search T N bf t pe i h1 n (by omega) (fun j a b => h2 j a (by omega))
      rw [← ih]
      simp [scan, this]

set_option maxHeartbeats 1000000 in
theorem at25 (bc : Nat) (sp : Nat) (bf : Int) (a : Option Addr) (g o n c : Nat) (T N : Nat → Int) (t : Int) (pe : Nat) (w : World) (hn : n ≤ 65536) (ha : 0 < n → a = some ⟨g, o, none⟩) (h : pts w g o n T N)
    (c0 : w.cell? ⟨bc, 0, none⟩ = some (.float .f64 sp)) (c1 : w.cell? ⟨bc, 1, none⟩ = some (.int .i64 bf)) (c2 : w.cell? ⟨bc, 2, none⟩ = some (.slice a n c))
    (hmono : Hid (∀ j k, j ≤ k → k < n → fgeq (since (T k) t) pe = true → fgeq (since (T j) t) pe = true)) :
    Calls Try.prog 25 #[.pointer (some ⟨bc, 0, none⟩), .int .i64 t, .float .f64 pe] w fun e w' => e = .returned (.int .i64 (scan T N bf t pe n)) ∧ Below w.heap.size w w' := by
  have hb : bc < w.heap.size := World.block_lt_of_cell? _ _ c0
  have HA : Hid (0 < n → a = some ⟨g, o, none⟩) := ha
  clear ha
  have hw1 : Below w.heap.size w (w.alloc (.cells #[.float .f64 pe] 22)) := (Below.refl _ _).alloc (Nat.le_refl _) _
  have hp1 : pts (w.alloc (.cells #[.float .f64 pe] 22)) g o n T N := fun j hj => ⟨cell_later hw1 (h j hj).1, cell_later hw1 (h j hj).2⟩
  go_enter Try.func25, Try.ntmps25
  go_wp2_with fail
  refine (search30 a g o n c T N t pe w.heap.size _ hn HA.out hp1 (by simp) hmono).mono ?_
  rintro e w2 ⟨i, f, rfl, hi, h1, h2, hb2⟩
  have hbel : Below w.heap.size w w2 := hw1.trans (hb2.mono (by simp))
  have HS : Hid (scan T N bf t pe n = if i = 0 then bf else N (i - 1)) := scan_search T N bf t pe i h1 n hi h2
  have d1 : w2.cell? ⟨bc, 1, none⟩ = some (.int .i64 bf) := cell_later hbel c1
  have d2 : w2.cell? ⟨bc, 2, none⟩ = some (.slice a n c) := cell_later hbel c2
  clear hw1 hp1 hb2 h1 h2 c0 c1 c2
  by_cases h0 : i = 0
  · subst h0
    go_wp2_with fail
    go_ret
    exact ⟨by rw [HS.out]; rfl, hbel⟩
  · obtain ⟨k, rfl⟩ : ∃ k, i = k + 1 := ⟨i - 1, by omega⟩
    obtain rfl := HA.out (by omega)
    have d3 : w2.cell? ⟨g, o + k * 2 + 1, none⟩ = some (.int .i64 (N k)) := cell_later hbel (h k (by omega)).2
    have i1 : (k : Int) < (n : Int) := by omega
    have e1 : ((k + 1 : Nat) : Int) = (k : Int) + 1 := by omega
    have e2 : (((k : Int) + 1) == 0) = false := beq_eq_false_iff_ne.2 (by omega)
    rw [e1]
    clear e1 h
    go_wp2_with fail
    go_ret
    exact ⟨by rw [HS.out]; simp, hbel⟩
end Go.Proofs.Qxb6605212a
