/- FnStatesMatchPerTaskModel, walked. -/
import Derived.Test.Qxb6605248aTaskP
import Derived.Test.Qxb6605248aModA
import Derived.Test.Qxb6605248aBy8
set_option linter.unusedVariables false
namespace Go.Proofs.Qxb6605248a
open Go.RowKit Go.Maps

set_option maxRecDepth 4000 in
set_option maxHeartbeats 16000000 in
theorem model_law (r : Recs) (G : Nat → Int) (w : World) (h : r.In w) (hG : Gates w r.B.n r.P G) (hc : r.B.a = none → r.B.c = 0) :
    Calls Try.prog 3 r.args w fun e w' => e = .returned (.bool true) ∧ Below w.heap.size w w' := by
  have HIN : Hid (r.In w) := h
  have HG : Hid (Gates w r.B.n r.P G) := hG
  have HDc : Hid (r.B.a = none → r.B.c = 0) := hc
  clear h hG hc
  unfold Recs.args
  go_enter Try.func3, Try.ntmps3
  go_wp2_with fail
  refine (bytes8 r.A.a r.A.n r.A.c r.A.b r.A.o r.T r.B.a r.B.n r.B.c r.C.a r.C.n r.C.c r.D.a r.D.n r.D.c r.E.a r.E.n r.E.c r.F.a r.F.n r.F.c r.F.b r.F.o r.Ev r.G.a r.G.n r.G.c r.I.a r.I.n r.I.c r.I.b r.I.o r.Bo r.J.a r.J.n r.J.c r.K.a r.K.n r.K.c r.L.a r.L.n r.L.c r.L.b r.L.o r.Re w HIN.out.1 HIN.out.2.2.2.2.2.1 HIN.out.2.2.2.2.2.2.2.1 HIN.out.2.2.2.2.2.2.2.2.2.2).mono ?_
  rintro e w' ⟨p, rfl, hsm, hw⟩
  obtain rfl := hw.symm
  clear hw
  have HSM0 : Hid (p = true → bytes16_small r.A.n r.F.n r.I.n r.L.n r.T r.Ev r.Bo r.Re) := hsm
  clear hsm
  cases p
  · go_wp2_with fail
    go_ret
    exact ⟨rfl, Below.refl _ _⟩
  have HSM : Hid (bytes16_small r.A.n r.F.n r.I.n r.L.n r.T r.Ev r.Bo r.Re) := HSM0.out rfl
  clear HSM0
  go_upto_region 3 with fail
  go_cut [96] from 44 to 96 (fun v w' => ∃ b : Bool, v = .bool b ∧ Hid (b = false → r.A.n ≤ 4096 ∧ r.B.n ≤ 4096 ∧ r.C.n ≤ 4096 ∧ r.D.n ≤ 4096 ∧ r.E.n ≤ 4096 ∧ r.F.n ≤ 4096 ∧ r.G.n ≤ 4096 ∧ r.I.n ≤ 4096 ∧ r.J.n ≤ 4096 ∧ r.K.n ≤ 4096 ∧ r.L.n ≤ 4096) ∧ w' = w)
  case first =>
    go_wp2_with fail
    all_goals go_meet
    all_goals exact ⟨_, rfl, fun h => by (first | (exfalso; simp at h; done) | (exfalso; simp at h; omega) | (simp at h; refine ⟨?_, ?_, ?_, ?_, ?_, ?_, ?_, ?_, ?_, ?_, ?_⟩ <;> omega)), rfl⟩
  case rest =>
    obtain ⟨b, rfl, HLE, hwc⟩ := hcut
    obtain rfl := hwc.symm
    clear hwc
    cases b
    rotate_left
    · go_wp2_with fail
      go_ret
      exact ⟨rfl, Below.refl _ _⟩
    obtain ⟨l1, l2, l3, l4, l5, l6, l7, l8, l9, l10, l11⟩ := HLE.out rfl
    have HLL : Hid (r.A.n ≤ 4096 ∧ r.B.n ≤ 4096 ∧ r.C.n ≤ 4096 ∧ r.D.n ≤ 4096 ∧ r.E.n ≤ 4096 ∧ r.F.n ≤ 4096 ∧ r.G.n ≤ 4096 ∧ r.I.n ≤ 4096 ∧ r.J.n ≤ 4096 ∧ r.K.n ≤ 4096 ∧ r.L.n ≤ 4096) := ⟨by omega, by omega, by omega, by omega, by omega, by omega, by omega, by omega, by omega, by omega, by omega⟩
    have lB : r.B.n ≤ 4096 := by omega
    have lF : r.F.n ≤ 4096 := l6
    clear HLE l1 l2 l3 l4 l5 l6 l7 l8 l9 l10 l11
    go_wp2_with fail
    refine (recBytes9 r w HIN.out HLL.out HSM.out).mono ?_
    rintro e w' ⟨t, rfl, ht, hw⟩
    obtain rfl := hw.symm
    clear hw
    by_cases htt : t ≤ 1048576
    rotate_left
    · have htt' : ¬ (t : Int) ≤ 1048576 := by omega
      go_wp2_with fail
      go_ret
      exact ⟨rfl, Below.refl _ _⟩
    have htt' : (t : Int) ≤ 1048576 := by omega
    go_wp2_with fail
    refine (clone10_own r.B.a r.B.n r.B.c r.B.b r.B.o r.P G w HIN.out.2.1 HG.out lB HDc.out).mono ?_
    rintro e w2 ⟨a2, g2, P2, rfl, hrow2, hgt2, his2, hb2⟩
    have HI2 : Hid ((r.withB ⟨a2, r.B.n, r.B.n, g2, 0⟩ P2).In w2) := Recs.In.withB (HIN.out.later hb2) _ _ hrow2
    clear hrow2 hgt2 his2 htt htt' ht
    go_wp2_with fail
    refine (make11 (r.withB ⟨a2, r.B.n, r.B.n, g2, 0⟩ P2) w2 HI2.out (by have : (r.withB ⟨a2, r.B.n, r.B.n, g2, 0⟩ P2).F.n = r.F.n := rfl; omega)).mono ?_
    rintro e w3 ⟨rfl, hrow3, hb23⟩
    have HR3 : Hid (RecRow w3 w2.heap.size r.F.n (r.withB ⟨a2, r.B.n, r.B.n, g2, 0⟩ P2).at) := recRow_of hrow3
    have hb3 : Below w.heap.size w w3 := hb2.trans (hb23.mono hb2.size)
    have HTS : Hid (∀ j, j < r.F.n → ((r.withB ⟨a2, r.B.n, r.B.n, g2, 0⟩ P2).at j).task.size ≤ maxLen) := fun j hj => withB_task r _ P2 HSM.out.1 j
    rw [show (r.withB ⟨a2, r.B.n, r.B.n, g2, 0⟩ P2).F.n = r.F.n from rfl]
    have hrg3 : w2.heap.size < w3.heap.size := hrow3.lt
    clear hrow3 hb23 hb2 HI2 HIN HG HDc HSM HLL
    generalize (r.withB ⟨a2, r.B.n, r.B.n, g2, 0⟩ P2).at = rc at *
    generalize w2.heap.size = rg at *
    generalize r.F.n = m at *
    have hm4 : m ≤ 4096 := by omega
    go_wp2_with fail
    refine (states12 rg m m rc w3 HR3.out HTS.out hm4).mono ?_
    rintro e w5 ⟨rfl, hmap5, hb35⟩
    have hb5 : Below w.heap.size w w5 := hb3.trans (hb35.mono hb3.size)
    have HR5 : Hid (RecRow w5 rg m rc) := fun j hj i v hv => cell_later hb35 (HR3.out j hj i v hv)
    have HM5 : Hid (MapN w5 w3.heap.size (szF rc m) (stF rc m)) := hmap5
    have hbl : w3.heap.size < w5.heap.size := hmap5.lt
    have HB5 : Hid (Below w.heap.size w w5) := hb5
    clear hmap5 hb35 hb3 hb5 HR3 hrg3
    generalize w3.heap.size = mb at *
    have hd0 := lastD_le rc m
    go_wp2_with fail
    refine (lastStart13 rg m m rc w5 HR5.out hm4).mono ?_
    rintro e w' ⟨rfl, hw⟩
    obtain rfl := hw.symm
    clear hw
    have HDD : Hid (-1 ≤ lastD rc m ∧ lastD rc m < m) := hd0
    have HMD : Hid (∀ id, ¬ id = emptyS → Model rc id (lastD rc m) m (gF rc id m)) := fun id hid => as_model rc id hid m
    clear hd0
    generalize lastD rc m = d at *
    go_wp2_with fail
    go_loopw [26, 27] (fun dd i wr => ∃ k : Nat, k ≤ m ∧ i = .int .i64 k ∧ dd = .int .i64 (szF rc k) ∧ Hid (Below w5.heap.size w5 wr)) (fun _ i _ => m - (intOf i).toNat)
    case atStart => exact ⟨0, Nat.zero_le _, rfl, rfl, Below.refl _ _⟩
    case round =>
      obtain ⟨k, hk, rfl, rfl, HB⟩ := hrel
      obtain ⟨wo, hwo⟩ : ∃ wo : World, wo = wr := ⟨_, rfl⟩
      rw [← hwo] at HB ⊢
      clear hwo
      have HRo : Hid (RecRow wo rg m rc) := fun j hj i v hv => cell_later HB.out (HR5.out j hj i v hv)
      have HMo : Hid (MapN wo mb (szF rc m) (stF rc m)) := HM5.out.of_block (HB.out.block _ hbl)
      have hbo : w5.heap.size ≤ wo.heap.size := HB.out.size
      by_cases hlt : k < m
      · have c0 : wo.cell? ⟨rg, k * 11, none⟩ = some (.string (rc k).task) := (HRo.out.cells k hlt).1
        have i0 : (0 : Int) ≤ (k : Int) := by omega
        have i1 : (k : Int) < (m : Int) := by omega
        have hszk : szF rc k ≤ k := szF_le rc k
        by_cases he : (rc k).task = emptyS
        · have HZ : Hid (szF rc (k + 1) = szF rc k) := sz_old rc k (.inl he)
          rw [he] at c0
          unfold emptyS at c0
          go_wp2_with fail
          go_roundw
          case rel => exact ⟨k + 1, by omega, by go_num, by rw [HZ.out], HB⟩
          case measure => simp [intOf]; omega
        · have e1 : ((rc k).task.toList == []) = false := str_ne _ _ he
          go_wp2_with fail
          refine (firstTask14 rg m m rc (rc k).task wo HRo.out hm4).mono ?_
          rintro e w' ⟨v, rfl, hfst, hw⟩
          obtain rfl := hw.symm
          clear hw
          rcases hfst with ⟨j, hj, rfl, htj, hmin⟩ | ⟨rfl, hno⟩
          rotate_left
          · exact absurd rfl (hno k hlt)
          by_cases hjk : k = j
          rotate_left
          · have hjk2 : j < k := by
              by_cases h : j < k
              · exact h
              · exact absurd rfl (hmin k (by omega))
            have HZ : Hid (szF rc (k + 1) = szF rc k) := sz_old rc k (.inr ⟨j, hjk2, htj⟩)
            have n1 : ¬ (j : Int) = (k : Int) := by omega
            clear hmin htj hjk
            go_wp2_with fail
            go_roundw
            case rel => exact ⟨k + 1, by omega, by go_num, by rw [HZ.out], HB⟩
            case measure => simp [intOf]; omega
          · subst hjk
            have HZ : Hid (szF rc (k + 1) = szF rc k + 1) := sz_new rc k he hmin
            clear hmin htj hj e1
            obtain ⟨id, hid⟩ : ∃ id, id = (rc k).task := ⟨_, rfl⟩
            have hne : ¬ id = emptyS := by rw [hid]; exact he
            have hsome : (stF rc m id).isSome = true := (stF_isSome rc m id).2 ⟨hne, k, hlt, hid.symm⟩
            obtain ⟨st, hst⟩ := Option.isSome_iff_exists.1 hsome
            have HST : Hid (stF rc m id = some st) := hst
            have HMM : Hid (Model rc id d m st) := by
              have h1 := HMD.out id hne
              have h2 : gF rc id m = st := by unfold gF; rw [hst]; rfl
              rw [h2] at h1
              exact h1
            have HIS : Hid (id.size ≤ maxLen) := by rw [hid]; exact HTS.out k hlt
            rw [← hid] at c0 ⊢
            clear hid he hsome hst hne c0
            have HRa : Hid (∀ o, RecRow (wo.alloc o) rg m rc) := fun o j hj i v hv => cell_later ((Below.refl _ _).alloc (Nat.le_refl _) o) (HRo.out j hj i v hv)
            obtain ⟨⟨p0, p1, p2, p3, p4, p5, p6, p7, p8, p9, p10⟩, tk, at_, uw, car⟩ := st
            go_wp2_with (first | (refine wpList_haveV rfl _ _ rfl mb (szF rc m) (stF rc m) rfl HMo.out id rfl HIS.out _ HST.out (.agg #[.string p0, .pointer p1, .bool p2, .int .i64 p3, .bool p4, .string p5, .int .i64 p6, .string p7, .int .u64 p8, .int .i64 p9, .string p10, .bool tk, .int .i64 at_, .bool uw, .bool car]) rfl ?_))
            refine (asModel15 rg m m rc id d ⟨⟨p0, p1, p2, p3, p4, p5, p6, p7, p8, p9, p10⟩, tk, at_, uw, car⟩ _ (HRa.out _) hm4 HDD.out HMM.out).mono ?_
            rintro e w8 ⟨rfl, hb8⟩
            have HB8 : Hid (Below w5.heap.size w5 w8) := (HB.out.alloc hbo _).trans (hb8.mono (by simp; omega))
            clear hb8
            go_wp2_with fail
            go_roundw
            case rel => exact ⟨k + 1, by omega, by go_num, by rw [HZ.out]; go_num, HB8⟩
            case measure => simp [intOf]; omega
      · obtain rfl : k = m := by omega
        go_wp2_with (first | (refine wpList_lenN rfl _ rfl mb (szF rc k) (stF rc k) rfl HMo.out ?_))
        go_ret
        exact ⟨rfl, HB5.out.trans (HB.out.mono HB5.out.size)⟩
end Go.Proofs.Qxb6605248a
