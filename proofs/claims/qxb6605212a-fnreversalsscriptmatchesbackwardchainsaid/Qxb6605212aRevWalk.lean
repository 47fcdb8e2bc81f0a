import Derived.Test.Qxb6605212aLeafB
import Derived.Test.Qxb6605212aRev
import Derived.Deep.RegionHeld3
namespace Go.Proofs.Qxb6605212a
open Go.RowKit

set_option maxHeartbeats 8000000 in
set_option maxRecDepth 100000 in
theorem rev_walk (ts fs os : Nat → Int) (b1 o1 b2 o2 b3 o3 n1 n2 n3 c1 c2 c3 : Nat) (u d : Nat) (w : World)
    (h1 : n1 ≤ maxLen) (h2 : n2 ≤ maxLen) (h3 : n3 ≤ maxLen)
    (k1 : ∀ j, j < n1 → w.cell? ⟨b1, o1 + j, none⟩ = some (.int .i64 (ts j)))
    (k2 : ∀ j, j < n2 → w.cell? ⟨b2, o2 + j, none⟩ = some (.int .i64 (fs j)))
    (k3 : ∀ j, j < n3 → w.cell? ⟨b3, o3 + j, none⟩ = some (.int .i64 (os j))) 
    (B1 : b1 < w.heap.size) (B2 : b2 < w.heap.size) (B3 : b3 < w.heap.size) :
    Calls Try.prog 6 #[.slice (some ⟨b1, o1, none⟩) n1 c1, .slice (some ⟨b2, o2, none⟩) n2 c2, .slice (some ⟨b3, o3, none⟩) n3 c3, .float .f64 u, .float .f64 d] w fun e w' => e = .returned (.bool true) ∧ Below w.heap.size w w' := by
  unfold maxLen at h1 h2 h3
  go_enter Try.func6, Try.ntmps6
  go_wp2_with fail
  refine (bytes19 _ _ _ _ _ _ _ _ _ _ _ _ (by unfold maxLen; omega) (by unfold maxLen; omega) (by unfold maxLen; omega)).mono ?_
  rintro e w' ⟨p, rfl, hw⟩
  obtain rfl := hw.symm
  cases p
  · go_wp2_with fail
    go_ret
    exact ⟨rfl, Below.refl _ _⟩
  go_upto_region 3 with fail
  by_cases l1 : n1 ≤ 65536
  case neg => go_wp2_with fail; all_goals (go_ret; exact ⟨rfl, Below.refl _ _⟩)
  by_cases l2 : n2 ≤ 65536
  case neg => go_wp2_with fail; all_goals (go_ret; exact ⟨rfl, Below.refl _ _⟩)
  by_cases l3 : n3 ≤ 65536
  case neg => go_wp2_with fail; all_goals (go_ret; exact ⟨rfl, Below.refl _ _⟩)
  by_cases l4 : n1 + n2 + n3 ≤ 131072
  case neg => go_wp2_with fail; all_goals (go_ret; exact ⟨rfl, Below.refl _ _⟩)
  cases hu : fgeq u 0
  case false => 
    have hu' : (FloatKind.f64.format.order u 0 == some .gt || FloatKind.f64.format.order u 0 == some .eq) = false := hu
    go_wp2_with fail; all_goals (go_ret; exact ⟨rfl, Below.refl _ _⟩)
  have hu' : (FloatKind.f64.format.order u 0 == some .gt || FloatKind.f64.format.order u 0 == some .eq) = true := hu
  cases hd : fgeq d 0
  case false => 
    have hd' : (FloatKind.f64.format.order d 0 == some .gt || FloatKind.f64.format.order d 0 == some .eq) = false := hd
    go_wp2_with fail; all_goals (go_ret; exact ⟨rfl, Below.refl _ _⟩)
  have hd' : (FloatKind.f64.format.order d 0 == some .gt || FloatKind.f64.format.order d 0 == some .eq) = true := hd
  go_upto_if 68 with fail
  go_cut [11] from 67 to 70 (fun v w' => v = .int .i64 ((min n1 n2 : Nat) : Int) ∧ w' = w)
  case first =>
    go_wp2
    all_goals
      go_meet
      case rel => exact ⟨by go_num, rfl⟩
  obtain ⟨rfl, hw⟩ := hcut
  obtain rfl := hw.symm
  go_upto_if 74 with fail
  go_cut [11] from 73 to 76 (fun v w' => v = .int .i64 ((min (min n1 n2) n3 : Nat) : Int) ∧ w' = w)
  case first =>
    go_wp2
    all_goals
      go_meet
      case rel => exact ⟨by go_num, rfl⟩
  obtain ⟨rfl, hw⟩ := hcut
  obtain rfl := hw.symm
  obtain ⟨n, hn⟩ : ∃ n, n = min (min n1 n2) n3 := ⟨_, rfl⟩
  rw [← hn]
  have q1 : n ≤ n1 := by omega
  have q2 : n ≤ n2 := by omega
  have q3 : n ≤ n3 := by omega
  have q4 : n ≤ 65536 := by omega
  clear hn
  go_wp2_with fail
  refine (make20 _).mono ?_
  rintro e w1 ⟨rfl, hb1⟩
  have hs1 := hb1.size
  go_wp2_with fail
  have hz : FloatKind.f64.format.read 0 = .number false 0 Ieee.double.leastPlace := by decide +kernel
  obtain ⟨s, hs, oks⟩ : ∃ s, Ieee.double.add u d = some s ∧ Fl.ok Ieee.double s := by
    clear k1 k2 k3
    have g : ∀ x, fgeq x 0 = true → ∃ o, Ieee.double.order x 0 = some o ∧ o ≠ .lt := by
      intro x hx
      unfold fgeq at hx
      rw [Bool.or_eq_true] at hx
      rcases hx with h | h
      · exact ⟨.gt, eq_of_beq h, by decide⟩
      · exact ⟨.eq, eq_of_beq h, by decide⟩
    obtain ⟨ou, e1, e2⟩ := g u hu
    obtain ⟨od, e3, e4⟩ := g d hd
    exact Fl.add_ok Ieee.double (by decide) u d 0 hz ou od e1 e2 e3 e4
  have hs' : FloatKind.f64.format.order s sixty ≠ none := by
    have := Fl.order_key Ieee.double (by decide) s sixty oks ok_sixty
    show Ieee.double.order s sixty ≠ none
    rw [this]; simp
  have hG := fun a b => gap_law s (since a b) oks (ok_since a b)
  obtain ⟨HU, HD, HS, HS', HG⟩ : Hid (fgeq u 0 = true) ∧ Hid (fgeq d 0 = true) ∧ Hid (Ieee.double.add u d = some s) ∧ Hid (FloatKind.f64.format.order s sixty ≠ none) ∧ Hid (∀ a b, fgeq (since a b) (gmax s) = !flt (since a b) (gapIf s)) := ⟨hu, hd, hs, hs', hG⟩
  clear hu hd hs hs' hG hz hu' hd' oks
  go_loopw [13] (fun i wr => ∃ k : Nat, k ≤ n ∧ i = .int .i64 k ∧ (backward ts fs os (gapIf s) k).at wr w1.heap.size ∧ Below w1.heap.size w1 wr) (fun i _ => n - (intOf i).toNat)
  case atStart =>
    refine ⟨0, Nat.zero_le _, rfl, ?_, ?_⟩
    · simp only [RS.at, rsAt, backward, lastIdx]
      simp
    · exact (Below.refl _ _).alloc (Nat.le_refl _) _
  case round =>
    obtain ⟨k, hk, rfl, hat, hbel⟩ := hrel
    by_cases hlt : k < n
    · have r1 : wr.cell? ⟨b1, o1 + k, none⟩ = some (.int .i64 (ts k)) := (hbel.cell (by exact Nat.lt_of_lt_of_le B1 hs1)).trans ((hb1.cell (by exact B1)).trans (k1 k (by omega)))
      have r2 : wr.cell? ⟨b2, o2 + k, none⟩ = some (.int .i64 (fs k)) := (hbel.cell (by exact Nat.lt_of_lt_of_le B2 hs1)).trans ((hb1.cell (by exact B2)).trans (k2 k (by omega)))
      have r3 : wr.cell? ⟨b3, o3 + k, none⟩ = some (.int .i64 (os k)) := (hbel.cell (by exact Nat.lt_of_lt_of_le B3 hs1)).trans ((hb1.cell (by exact B3)).trans (k3 k (by omega)))
      have i0 : (0 : Int) ≤ (k : Int) := by omega
      have i1 : (k : Int) < (n1 : Int) := by omega
      have i2 : (k : Int) < (n2 : Int) := by omega
      have i3 : (k : Int) < (n3 : Int) := by omega
      have hbc := backward_c ts fs os (gapIf s) k
      clear k1 k2 k3
      go_wp2_with fail
      go_region_held3 (fun w' => w'.cell? ⟨b1, o1 + k, none⟩ = some (.int .i64 (ts k)) ∧ w'.cell? ⟨b2, o2 + k, none⟩ = some (.int .i64 (fs k)) ∧ w'.cell? ⟨b3, o3 + k, none⟩ = some (.int .i64 (os k))) (first | go_keep | (exact ⟨(hbel2.cell (by exact Nat.lt_of_lt_of_le B1 hs1)).trans (by exact r1), (hbel2.cell (by exact Nat.lt_of_lt_of_le B2 hs1)).trans (by exact r2), (hbel2.cell (by exact Nat.lt_of_lt_of_le B3 hs1)).trans (by exact r3)⟩)) ((go_at_call 21; refine (add21 w1.heap.size (backward ts fs os (gapIf s) k) (ts k) (fs k) (os k) u d s _ (by exact hat) HS.out HS'.out hbc.1 (by omega)).mono ?_; rintro e w2 ⟨rfl, hat2, hbel2⟩))
      rw [backward_step ts fs os (gapIf s) (gmax s) HG.out k] at hat2
      clear hat
      go_wp2_with fail
      go_roundw
      case rel => exact ⟨k + 1, by omega, by go_num, hat2, hbel.trans (Below.trans (Below.refl _ _).drew hbel2)⟩
      case measure => simp [intOf]; omega
    · obtain rfl : k = n := by omega
      clear hlt hk
      go_wp2_with fail
      have hb2 : Below w.heap.size w wr := hb1.trans (hbel.mono hs1)
      clear hbel hb1
      cases hl : lastIdx fs os k with
      | none =>
        have hback : backward ts fs os (gapIf s) k = ⟨0, 0, 0, false, false⟩ := by simp [backward, hl]
        rw [hback] at hat
        have hno : ∀ j, j < k → (fs j != os j) = false := by
          intro j hj
          have := lastIdx_after fs os k j hj (by rw [hl]; intro p hp; cases hp)
          exact this
        clear hback hl
        refine (fields22 w1.heap.size ⟨0, 0, 0, false, false⟩ wr hat).mono ?_
        rintro e w2 ⟨rfl, hdr⟩
        have hb3 : Below w.heap.size w w2 := by
          obtain ⟨nq, rfl⟩ := hdr
          exact below_drewN hb2 nq
        clear hdr hb2 hat
        go_wp2_with fail
        refine (zGap_any u d s HS.out _).mono ?_
        rintro e w3 ⟨rfl, hw⟩
        obtain rfl := hw.symm
        go_wp2_with fail
        go_loopw [20, 21] (fun l i wq => l = .int .i64 (-1) ∧ Below w.heap.size w wq ∧ ((∃ j : Nat, j < k ∧ i = .int .i64 j) ∨ i = .int .i64 (-1))) (fun _ i _ => (intOf i + 1).toNat)
        case atStart =>
          refine ⟨rfl, hb3, ?_⟩
          by_cases hk0 : k = 0
          · right; subst hk0; rfl
          · left; exact ⟨k - 1, by omega, by go_num⟩
        case round =>
          obtain ⟨rfl, hbq, ⟨j, hj, rfl⟩ | rfl⟩ := hrel
          · have r2 : wr.cell? ⟨b2, o2 + j, none⟩ = some (.int .i64 (fs j)) := (hbq.cell (by exact B2)).trans (k2 j (by omega))
            have r3 : wr.cell? ⟨b3, o3 + j, none⟩ = some (.int .i64 (os j)) := (hbq.cell (by exact B3)).trans (k3 j (by omega))
            have i0 : (0 : Int) ≤ (j : Int) := by omega
            have i2 : (j : Int) < (n2 : Int) := by omega
            have i3 : (j : Int) < (n3 : Int) := by omega
            have hnj := hno j hj
            clear k1 k2 k3 hno
            go_wp2_with fail
            go_quiet (fail)
            go_wp2_with fail
            go_roundw
            case rel =>
              refine ⟨rfl, below_drewN hbq _, ?_⟩
              by_cases hk0 : j = 0
              · right; subst hk0; rfl
              · left; exact ⟨j - 1, by omega, by go_num⟩
            case measure => simp [intOf]
          · go_wp2_with fail
            go_ret
            exact ⟨rfl, hbq⟩
      | some p =>
        obtain ⟨e, f, hch⟩ : ∃ e f, chain ts fs os (gapIf s) p p = (e, f) := ⟨_, _, rfl⟩
        have hback : backward ts fs os (gapIf s) k = ⟨1 + (e : Int), ts f, ts p, ris fs os p, decide (p + 1 = k) && ((1 + (e : Int)) == 6)⟩ := by simp [backward, hl, hch]
        have hpk := lastIdx_lt fs os k p hl
        have hcp : (fs p != os p) = true := lastIdx_chg fs os k p hl
        have hno : ∀ j, j < k → p < j → (fs j != os j) = false := by
          intro j hj hpj
          have := lastIdx_after fs os k j hj (by rw [hl]; intro p' hp; cases hp; exact hpj)
          exact this
        have hfp : f ≤ p := by
          have := chain_fst_lt ts fs os (gapIf s) p p
          rw [hch] at this
          omega
        have hep : e ≤ p := by
          have := chain_le ts fs os (gapIf s) p p
          rw [hch] at this
          omega
        rw [hback] at hat
        obtain ⟨rea, hrea⟩ : ∃ rea, rea = (decide (p + 1 = k) && ((1 + (e : Int)) == 6)) := ⟨_, rfl⟩
        rw [← hrea] at hat
        have HR : Hid (rea = (decide (p + 1 = k) && ((1 + (e : Int)) == 6))) := hrea
        have HCH : Hid (chain ts fs os (gapIf s) p p = (e, f)) := hch
        obtain ⟨rs, hrs⟩ : ∃ rs, rs = ris fs os p := ⟨_, rfl⟩
        rw [← hrs] at hat
        have HRS : Hid (rs = ris fs os p) := hrs
        clear hback hl hrea hch hrs
        refine (fields22 w1.heap.size ⟨1 + (e : Int), ts f, ts p, rs, rea⟩ wr hat).mono ?_
        rintro e2 w2 ⟨rfl, hdr⟩
        have hb3 : Below w.heap.size w w2 := by
          obtain ⟨nq, rfl⟩ := hdr
          exact below_drewN hb2 nq
        clear hdr hb2 hat
        go_wp2_with fail
        refine (zGap_any u d s HS.out _).mono ?_
        rintro e2 w3 ⟨rfl, hw⟩
        obtain rfl := hw.symm
        go_wp2_with fail
        go_loopw [20, 21] (fun l i wq => l = .int .i64 (-1) ∧ Below w.heap.size w wq ∧ ∃ j : Nat, j < k ∧ p ≤ j ∧ i = .int .i64 j) (fun _ i _ => (intOf i + 1).toNat)
        case atStart => exact ⟨rfl, hb3, k - 1, by omega, by omega, by go_num⟩
        case round =>
          obtain ⟨rfl, hbq, j, hj, hpj, rfl⟩ := hrel
          have r2 : wr.cell? ⟨b2, o2 + j, none⟩ = some (.int .i64 (fs j)) := (hbq.cell (by exact B2)).trans (k2 j (by omega))
          have r3 : wr.cell? ⟨b3, o3 + j, none⟩ = some (.int .i64 (os j)) := (hbq.cell (by exact B3)).trans (k3 j (by omega))
          have i0 : (0 : Int) ≤ (j : Int) := by omega
          have i2 : (j : Int) < (n2 : Int) := by omega
          have i3 : (j : Int) < (n3 : Int) := by omega
          by_cases hpe : p = j
          · subst hpe
            clear hno
            go_wp2_with fail
            go_quiet (fail)
            have hbq' : Below w.heap.size w (wr.drewN nq) := below_drewN hbq _
            clear hbq r2 r3
            generalize wr.drewN nq = w5 at hbq' ⊢
            go_wp2_with fail
            go_loopw [22, 23, 24] (fun l ff jj wq => Below w.heap.size w wq ∧ ∃ e' f' : Nat, l = .int .i64 (1 + (e' : Int)) ∧ ff = .int .i64 f' ∧ f' ≤ p ∧ e' ≤ p ∧ ((∃ q : Nat, q < f' ∧ jj = .int .i64 q ∧ Hid (e' + (chain ts fs os (gapIf s) (q + 1) f').1 = e ∧ (chain ts fs os (gapIf s) (q + 1) f').2 = f)) ∨ (jj = .int .i64 (-1) ∧ Hid (e' = e ∧ f' = f)))) (fun _ _ jj _ => (intOf jj + 1).toNat)
            case atStart =>
              refine ⟨hbq', 0, p, by go_num, rfl, Nat.le_refl _, Nat.zero_le _, ?_⟩
              have hc := HCH.out
              by_cases hk0 : p = 0
              · right
                subst hk0
                simp [chain] at hc
                exact ⟨rfl, by omega, by omega⟩
              · left
                refine ⟨p - 1, by omega, by go_num, ?_⟩
                have e4 : p - 1 + 1 = p := by omega
                show _ ∧ _
                rw [e4, hc]
                exact ⟨by simp, rfl⟩
            case round =>
              obtain ⟨hbw, e', f', rfl, rfl, hf', he', ⟨q, hq, rfl, HI⟩ | ⟨rfl, HI⟩⟩ := hrel
              · have r2 : wr.cell? ⟨b2, o2 + q, none⟩ = some (.int .i64 (fs q)) := (hbw.cell (by exact B2)).trans (k2 q (by omega))
                have r3 : wr.cell? ⟨b3, o3 + q, none⟩ = some (.int .i64 (os q)) := (hbw.cell (by exact B3)).trans (k3 q (by omega))
                have i0 : (0 : Int) ≤ (q : Int) := by omega
                have i1 : (q : Int) < (n1 : Int) := by omega
                have i2 : (q : Int) < (n2 : Int) := by omega
                have i3 : (q : Int) < (n3 : Int) := by omega
                cases hcq : (fs q == os q)
                · go_wp2_with fail
                  go_quiet (fail)
                  have hb5 : Below w.heap.size w (wr.drewN nq) := below_drewN hbw _
                  clear hbw r2 r3
                  generalize wr.drewN nq = w5 at hb5 ⊢
                  go_wp2_with fail
                  have r1 : w5.cell? ⟨b1, o1 + q, none⟩ = some (.int .i64 (ts q)) := (hb5.cell (by exact B1)).trans (k1 q (by omega))
                  have r2 : w5.cell? ⟨b2, o2 + q, none⟩ = some (.int .i64 (fs q)) := (hb5.cell (by exact B2)).trans (k2 q (by omega))
                  have r3 : w5.cell? ⟨b3, o3 + q, none⟩ = some (.int .i64 (os q)) := (hb5.cell (by exact B3)).trans (k3 q (by omega))
                  have y1 : w5.cell? ⟨b1, o1 + f', none⟩ = some (.int .i64 (ts f')) := (hb5.cell (by exact B1)).trans (k1 f' (by omega))
                  have y2 : w5.cell? ⟨b2, o2 + f', none⟩ = some (.int .i64 (fs f')) := (hb5.cell (by exact B2)).trans (k2 f' (by omega))
                  have y3 : w5.cell? ⟨b3, o3 + f', none⟩ = some (.int .i64 (os f')) := (hb5.cell (by exact B3)).trans (k3 f' (by omega))
                  have l0 : (0 : Int) ≤ (f' : Int) := by omega
                  have l1 : (f' : Int) < (n1 : Int) := by omega
                  have l2 : (f' : Int) < (n2 : Int) := by omega
                  have l3 : (f' : Int) < (n3 : Int) := by omega
                  cases hrq : (decide (fs q < os q) == decide (fs f' < os f'))
                  · cases hfq : (FloatKind.f64.format.order (since (ts q) (ts f')) (gapIf s) == some .lt)
                    · obtain ⟨he5, hf5⟩ : e = e' ∧ f = f' := by
                        have h := HI.out
                        have hcc : chg fs os q = true := by simp [chg, hcq]
                        have hbk : brk ts fs os (gapIf s) q f' = true := by simp only [brk, ris, flt]; rw [hrq, hfq]; rfl
                        rw [chain, if_neg (by simp [hcc]), if_pos hbk] at h
                        exact ⟨by have := h.1; simp at this; omega, h.2.symm⟩
                      clear HI
                      subst he5
                      subst hf5
                      go_quiet ((go_at_call 24; exact Calls.quiet_of_same (zSince_any _ _ _)))
                      have hb6 : Below w.heap.size w (w5.drewN nq) := below_drewN hb5 _
                      clear hb5 r1 r2 r3 y1 y2 y3
                      generalize w5.drewN nq = w6 at hb6 ⊢
                      have z1 : w6.cell? ⟨b1, o1 + f, none⟩ = some (.int .i64 (ts f)) := (hb6.cell (by exact B1)).trans (k1 f (by omega))
                      have z2 : w6.cell? ⟨b1, o1 + p, none⟩ = some (.int .i64 (ts p)) := (hb6.cell (by exact B1)).trans (k1 p (by omega))
                      have z3 : w6.cell? ⟨b2, o2 + p, none⟩ = some (.int .i64 (fs p)) := (hb6.cell (by exact B2)).trans (k2 p (by omega))
                      have z4 : w6.cell? ⟨b3, o3 + p, none⟩ = some (.int .i64 (os p)) := (hb6.cell (by exact B3)).trans (k3 p (by omega))
                      have v0 : (0 : Int) ≤ (p : Int) := by omega
                      have v1 : (p : Int) < (n1 : Int) := by omega
                      have v2 : (p : Int) < (n2 : Int) := by omega
                      have v3 : (p : Int) < (n3 : Int) := by omega
                      have v4 : (0 : Int) ≤ (f : Int) := by omega
                      have v5 : (f : Int) < (n1 : Int) := by omega
                      obtain rfl : rs = decide (fs p < os p) := HRS.out
                      by_cases hpk1 : p + 1 = k
                      · have hp1 : ((p : Int) == (k : Int) - 1) = true := beq_iff_eq.2 (by omega)
                        obtain rfl : rea = ((1 + (e : Int)) == 6) := by have := HR.out; rw [this, decide_eq_true hpk1, Bool.true_and]
                        clear hpk1 k1 k2 k3
                        go_wp2_with fail
                        go_quiet (fail)
                        go_wp2_with fail
                        go_ret
                        exact ⟨rfl, below_drewN hb6 _⟩
                      · have hp1 : ((p : Int) == (k : Int) - 1) = false := beq_eq_false_iff_ne.2 (by omega)
                        obtain rfl : rea = false := by have := HR.out; rw [this, decide_eq_false hpk1, Bool.false_and]
                        clear hpk1 k1 k2 k3
                        go_wp2_with fail
                        go_quiet (fail)
                        go_wp2_with fail
                        go_ret
                        exact ⟨rfl, below_drewN hb6 _⟩
                    · have HJ : Hid (e' + 1 + (chain ts fs os (gapIf s) q q).1 = e ∧ (chain ts fs os (gapIf s) q q).2 = f) := by
                        have h := HI.out
                        have hcc : chg fs os q = true := by simp [chg, hcq]
                        have hbk : brk ts fs os (gapIf s) q f' = false := by simp only [brk, ris, flt]; rw [hrq, hfq]; rfl
                        rw [chain, if_neg (by simp [hcc]), if_neg (by simp [hbk])] at h
                        exact ⟨by have := h.1; simp at this; omega, h.2⟩
                      clear HI k1 k2 k3
                      go_quiet ((go_at_call 24; exact Calls.quiet_of_same (zSince_any _ _ _)))
                      go_wp2_with fail
                      go_roundw
                      case rel =>
                        refine ⟨below_drewN hb5 _, e' + 1, q, by go_num, rfl, by omega, ?_, ?_⟩
                        · have h := HJ.out.1
                          omega
                        have h := HJ.out
                        by_cases hk0 : q = 0
                        · right
                          subst hk0
                          simp only [chain] at h
                          exact ⟨rfl, by omega, h.2⟩
                        · left
                          refine ⟨q - 1, by omega, by go_num, ?_⟩
                          have e4 : q - 1 + 1 = q := by omega
                          show _ ∧ _
                          rw [e4]
                          exact h
                      case measure => simp [intOf]
                  · obtain ⟨he5, hf5⟩ : e = e' ∧ f = f' := by
                      have h := HI.out
                      have hcc : chg fs os q = true := by simp [chg, hcq]
                      have hbk : brk ts fs os (gapIf s) q f' = true := by simp only [brk, ris]; rw [hrq]; rfl
                      rw [chain, if_neg (by simp [hcc]), if_pos hbk] at h
                      exact ⟨by have := h.1; simp at this; omega, h.2.symm⟩
                    clear HI
                    subst he5
                    subst hf5
                    go_quiet ((go_at_call 24; exact Calls.quiet_of_same (zSince_any _ _ _)))
                    have hb6 : Below w.heap.size w (w5.drewN nq) := below_drewN hb5 _
                    clear hb5 r1 r2 r3 y1 y2 y3
                    generalize w5.drewN nq = w6 at hb6 ⊢
                    have z1 : w6.cell? ⟨b1, o1 + f, none⟩ = some (.int .i64 (ts f)) := (hb6.cell (by exact B1)).trans (k1 f (by omega))
                    have z2 : w6.cell? ⟨b1, o1 + p, none⟩ = some (.int .i64 (ts p)) := (hb6.cell (by exact B1)).trans (k1 p (by omega))
                    have z3 : w6.cell? ⟨b2, o2 + p, none⟩ = some (.int .i64 (fs p)) := (hb6.cell (by exact B2)).trans (k2 p (by omega))
                    have z4 : w6.cell? ⟨b3, o3 + p, none⟩ = some (.int .i64 (os p)) := (hb6.cell (by exact B3)).trans (k3 p (by omega))
                    have v0 : (0 : Int) ≤ (p : Int) := by omega
                    have v1 : (p : Int) < (n1 : Int) := by omega
                    have v2 : (p : Int) < (n2 : Int) := by omega
                    have v3 : (p : Int) < (n3 : Int) := by omega
                    have v4 : (0 : Int) ≤ (f : Int) := by omega
                    have v5 : (f : Int) < (n1 : Int) := by omega
                    obtain rfl : rs = decide (fs p < os p) := HRS.out
                    by_cases hpk1 : p + 1 = k
                    · have hp1 : ((p : Int) == (k : Int) - 1) = true := beq_iff_eq.2 (by omega)
                      obtain rfl : rea = ((1 + (e : Int)) == 6) := by have := HR.out; rw [this, decide_eq_true hpk1, Bool.true_and]
                      clear hpk1 k1 k2 k3
                      go_wp2_with fail
                      go_quiet (fail)
                      go_wp2_with fail
                      go_ret
                      exact ⟨rfl, below_drewN hb6 _⟩
                    · have hp1 : ((p : Int) == (k : Int) - 1) = false := beq_eq_false_iff_ne.2 (by omega)
                      obtain rfl : rea = false := by have := HR.out; rw [this, decide_eq_false hpk1, Bool.false_and]
                      clear hpk1 k1 k2 k3
                      go_wp2_with fail
                      go_quiet (fail)
                      go_wp2_with fail
                      go_ret
                      exact ⟨rfl, below_drewN hb6 _⟩
                · have HJ : Hid (e' + (chain ts fs os (gapIf s) q f').1 = e ∧ (chain ts fs os (gapIf s) q f').2 = f) := by
                    have h := HI.out
                    have hcc : chg fs os q = false := by simp [chg, hcq]
                    rw [chain, if_pos hcc] at h
                    exact h
                  clear HI k1 k2 k3
                  go_wp2_with fail
                  go_quiet (fail)
                  go_wp2_with fail
                  go_roundw
                  case rel =>
                    refine ⟨below_drewN hbw _, e', f', rfl, rfl, hf', he', ?_⟩
                    have h := HJ.out
                    by_cases hk0 : q = 0
                    · right
                      subst hk0
                      simp only [chain] at h
                      exact ⟨rfl, by omega, h.2⟩
                    · left
                      refine ⟨q - 1, by omega, by go_num, ?_⟩
                      have e4 : q - 1 + 1 = q := by omega
                      show _ ∧ _
                      rw [e4]
                      exact h
                  case measure => simp [intOf]
              · obtain ⟨he5, hf5⟩ : e = e' ∧ f = f' := ⟨HI.out.1.symm, HI.out.2.symm⟩
                clear HI
                subst he5
                subst hf5
                have z1 : wr.cell? ⟨b1, o1 + f, none⟩ = some (.int .i64 (ts f)) := (hbw.cell (by exact B1)).trans (k1 f (by omega))
                have z2 : wr.cell? ⟨b1, o1 + p, none⟩ = some (.int .i64 (ts p)) := (hbw.cell (by exact B1)).trans (k1 p (by omega))
                have z3 : wr.cell? ⟨b2, o2 + p, none⟩ = some (.int .i64 (fs p)) := (hbw.cell (by exact B2)).trans (k2 p (by omega))
                have z4 : wr.cell? ⟨b3, o3 + p, none⟩ = some (.int .i64 (os p)) := (hbw.cell (by exact B3)).trans (k3 p (by omega))
                have v0 : (0 : Int) ≤ (p : Int) := by omega
                have v1 : (p : Int) < (n1 : Int) := by omega
                have v2 : (p : Int) < (n2 : Int) := by omega
                have v3 : (p : Int) < (n3 : Int) := by omega
                have v4 : (0 : Int) ≤ (f : Int) := by omega
                have v5 : (f : Int) < (n1 : Int) := by omega
                obtain rfl : rs = decide (fs p < os p) := HRS.out
                by_cases hpk1 : p + 1 = k
                · have hp1 : ((p : Int) == (k : Int) - 1) = true := beq_iff_eq.2 (by omega)
                  obtain rfl : rea = ((1 + (e : Int)) == 6) := by have := HR.out; rw [this, decide_eq_true hpk1, Bool.true_and]
                  clear hpk1 k1 k2 k3
                  go_wp2_with fail
                  go_quiet (fail)
                  go_wp2_with fail
                  go_ret
                  exact ⟨rfl, below_drewN hbw _⟩
                · have hp1 : ((p : Int) == (k : Int) - 1) = false := beq_eq_false_iff_ne.2 (by omega)
                  obtain rfl : rea = false := by have := HR.out; rw [this, decide_eq_false hpk1, Bool.false_and]
                  clear hpk1 k1 k2 k3
                  go_wp2_with fail
                  go_quiet (fail)
                  go_wp2_with fail
                  go_ret
                  exact ⟨rfl, below_drewN hbw _⟩
          · have hnj := hno j hj (by omega)
            clear k1 k2 k3 hno
            go_wp2_with fail
            go_quiet (fail)
            go_wp2_with fail
            go_roundw
            case rel => exact ⟨rfl, below_drewN hbq _, j - 1, by omega, by omega, by go_num⟩
            case measure => simp [intOf]
end Go.Proofs.Qxb6605212a
