/- FnStatesTaskHangsOnItsOwnRecords, walked. -/
import Derived.Test.Qxb6605248aTaskP
set_option linter.unusedVariables false
namespace Go.Proofs.Qxb6605248a
open Go.RowKit Go.Maps

set_option maxRecDepth 4000 in
set_option maxHeartbeats 16000000 in
theorem task_law (r : Recs) (G : Nat → Int) (w : World) (h : r.In w) (hG : Gates w r.B.n r.P G) (hc : r.B.a = none → r.B.c = 0) :
    Calls Try.prog 4 r.args w fun e w' => e = .returned (.bool true) ∧ Below w.heap.size w w' := by
  have HIN : Hid (r.In w) := h
  have HG : Hid (Gates w r.B.n r.P G) := hG
  have HDc : Hid (r.B.a = none → r.B.c = 0) := hc
  clear h hG hc
  unfold Recs.args
  go_enter Try.func4, Try.ntmps4
  go_wp2_with fail
  refine (bytes16 r.A.a r.A.n r.A.c r.A.b r.A.o r.T r.B.a r.B.n r.B.c r.C.a r.C.n r.C.c r.D.a r.D.n r.D.c r.E.a r.E.n r.E.c r.F.a r.F.n r.F.c r.F.b r.F.o r.Ev r.G.a r.G.n r.G.c r.I.a r.I.n r.I.c r.I.b r.I.o r.Bo r.J.a r.J.n r.J.c r.K.a r.K.n r.K.c r.L.a r.L.n r.L.c r.L.b r.L.o r.Re w HIN.out.1 HIN.out.2.2.2.2.2.1 HIN.out.2.2.2.2.2.2.2.1 HIN.out.2.2.2.2.2.2.2.2.2.2).mono ?_
  rintro e w' ⟨p, rfl, hsm, hw⟩
  obtain rfl := hw.symm
  clear hw
  have HSM0 : Hid (p = true → bytes16_small r.A.n r.F.n r.I.n r.L.n r.T r.Ev r.Bo r.Re) := hsm
  clear hsm
  cases p
  · go_wp2_with fail
    go_ret
    exact ⟨rfl, Below.refl _ _⟩
  have HSM : Hid (bytes16_small r.A.n r.F.n r.I.n r.L.n r.T r.Ev r.Bo r.Re) := HSM0.out rfl
  clear HSM0
  go_upto_region 3 with fail
  go_cut [100] from 48 to 100 (fun v w' => ∃ b : Bool, v = .bool b ∧ Hid (b = false → r.A.n ≤ 512 ∧ r.B.n ≤ 512 ∧ r.C.n ≤ 512 ∧ r.D.n ≤ 512 ∧ r.E.n ≤ 512 ∧ r.F.n ≤ 512 ∧ r.G.n ≤ 512 ∧ r.I.n ≤ 512 ∧ r.J.n ≤ 512 ∧ r.K.n ≤ 512 ∧ r.L.n ≤ 512) ∧ w' = w)
  case first =>
    go_wp2_with fail
    all_goals go_meet
    all_goals exact ⟨_, rfl, fun h => by (first | (exfalso; simp at h; done) | (exfalso; simp at h; omega) | (simp at h; refine ⟨?_, ?_, ?_, ?_, ?_, ?_, ?_, ?_, ?_, ?_, ?_⟩ <;> omega)), rfl⟩
  case rest =>
    obtain ⟨b, rfl, HLE, hwc⟩ := hcut
    obtain rfl := hwc.symm
    clear hwc
    cases b
    rotate_left
    · go_wp2_with fail
      go_ret
      exact ⟨rfl, Below.refl _ _⟩
    obtain ⟨l1, l2, l3, l4, l5, l6, l7, l8, l9, l10, l11⟩ := HLE.out rfl
    have HLL : Hid (r.A.n ≤ 4096 ∧ r.B.n ≤ 4096 ∧ r.C.n ≤ 4096 ∧ r.D.n ≤ 4096 ∧ r.E.n ≤ 4096 ∧ r.F.n ≤ 4096 ∧ r.G.n ≤ 4096 ∧ r.I.n ≤ 4096 ∧ r.J.n ≤ 4096 ∧ r.K.n ≤ 4096 ∧ r.L.n ≤ 4096) := ⟨by omega, by omega, by omega, by omega, by omega, by omega, by omega, by omega, by omega, by omega, by omega⟩
    have lB : r.B.n ≤ 4096 := by omega
    have lF : r.F.n ≤ 512 := l6
    clear HLE l1 l2 l3 l4 l5 l6 l7 l8 l9 l10 l11
    go_wp2_with fail
    refine (recBytes9 r w HIN.out HLL.out HSM.out).mono ?_
    rintro e w' ⟨t, rfl, ht, hw⟩
    obtain rfl := hw.symm
    clear hw
    by_cases htt : t ≤ 1048576
    rotate_left
    · have htt' : ¬ (t : Int) ≤ 1048576 := by omega
      go_wp2_with fail
      go_ret
      exact ⟨rfl, Below.refl _ _⟩
    have htt' : (t : Int) ≤ 1048576 := by omega
    go_wp2_with fail
    refine (clone10_own r.B.a r.B.n r.B.c r.B.b r.B.o r.P G w HIN.out.2.1 HG.out lB HDc.out).mono ?_
    rintro e w2 ⟨a2, g2, P2, rfl, hrow2, hgt2, his2, hb2⟩
    have HI2 : Hid ((r.withB ⟨a2, r.B.n, r.B.n, g2, 0⟩ P2).In w2) := Recs.In.withB (HIN.out.later hb2) _ _ hrow2
    clear hrow2 hgt2 his2 htt htt' ht
    go_wp2_with fail
    refine (make11 (r.withB ⟨a2, r.B.n, r.B.n, g2, 0⟩ P2) w2 HI2.out (by have : (r.withB ⟨a2, r.B.n, r.B.n, g2, 0⟩ P2).F.n = r.F.n := rfl; omega)).mono ?_
    rintro e w3 ⟨rfl, hrow3, hb23⟩
    have HR3 : Hid (RecRow w3 w2.heap.size r.F.n (r.withB ⟨a2, r.B.n, r.B.n, g2, 0⟩ P2).at) := recRow_of hrow3
    have hb3 : Below w.heap.size w w3 := hb2.trans (hb23.mono hb2.size)
    have HTS : Hid (∀ j, j < r.F.n → ((r.withB ⟨a2, r.B.n, r.B.n, g2, 0⟩ P2).at j).task.size ≤ maxLen) := fun j hj => withB_task r _ P2 HSM.out.1 j
    rw [show (r.withB ⟨a2, r.B.n, r.B.n, g2, 0⟩ P2).F.n = r.F.n from rfl]
    have hrg3 : w2.heap.size < w3.heap.size := hrow3.lt
    clear hrow3 hb23 hb2 HI2 HIN HG HDc HSM HLL
    generalize (r.withB ⟨a2, r.B.n, r.B.n, g2, 0⟩ P2).at = rc at *
    generalize w2.heap.size = rg at *
    generalize r.F.n = m at *
    have hm4 : m ≤ 4096 := by omega
    go_wp2_with fail
    refine (states12 rg m m rc w3 HR3.out HTS.out hm4).mono ?_
    rintro e w5 ⟨rfl, hmap5, hb35⟩
    have hb5 : Below w.heap.size w w5 := hb3.trans (hb35.mono hb3.size)
    have HR5 : Hid (RecRow w5 rg m rc) := fun j hj i v hv => cell_later hb35 (HR3.out j hj i v hv)
    have HM5 : Hid (MapN w5 w3.heap.size (szF rc m) (stF rc m)) := hmap5
    have hbl : w3.heap.size < w5.heap.size := hmap5.lt
    have HB5 : Hid (Below w.heap.size w w5) := hb5
    clear hmap5 hb35 hb3 hb5 HR3 hrg3
    generalize w3.heap.size = mb at *
    go_wp2_with fail
    go_loopw [25, 26] (fun d i wr => ∃ k : Nat, k ≤ m ∧ i = .int .i64 k ∧ d = .int .i64 (szF rc k) ∧ Hid (Below w5.heap.size w5 wr)) (fun _ i _ => m - (intOf i).toNat)
    case atStart => exact ⟨0, Nat.zero_le _, rfl, rfl, Below.refl _ _⟩
    case round =>
      obtain ⟨k, hk, rfl, rfl, HB⟩ := hrel
      obtain ⟨wo, hwo⟩ : ∃ wo : World, wo = wr := ⟨_, rfl⟩
      rw [← hwo] at HB ⊢
      clear hwo
      have HRo : Hid (RecRow wo rg m rc) := fun j hj i v hv => cell_later HB.out (HR5.out j hj i v hv)
      have HMo : Hid (MapN wo mb (szF rc m) (stF rc m)) := HM5.out.of_block (HB.out.block _ hbl)
      have hbo : w5.heap.size ≤ wo.heap.size := HB.out.size
      by_cases hlt : k < m
      · have c0 : wo.cell? ⟨rg, k * 11, none⟩ = some (.string (rc k).task) := (HRo.out.cells k hlt).1
        have i0 : (0 : Int) ≤ (k : Int) := by omega
        have i1 : (k : Int) < (m : Int) := by omega
        have hszk : szF rc k ≤ k := szF_le rc k
        by_cases he : (rc k).task = emptyS
        · have HZ : Hid (szF rc (k + 1) = szF rc k) := sz_old rc k (.inl he)
          rw [he] at c0
          unfold emptyS at c0
          go_wp2_with fail
          go_roundw
          case rel => exact ⟨k + 1, by omega, by go_num, by rw [HZ.out], HB⟩
          case measure => simp [intOf]; omega
        · have e1 : ((rc k).task.toList == []) = false := str_ne _ _ he
          go_wp2_with fail
          refine (firstTask14 rg m m rc (rc k).task wo HRo.out hm4).mono ?_
          rintro e w' ⟨v, rfl, hfst, hw⟩
          obtain rfl := hw.symm
          clear hw
          rcases hfst with ⟨j, hj, rfl, htj, hmin⟩ | ⟨rfl, hno⟩
          rotate_left
          · exact absurd rfl (hno k hlt)
          by_cases hjk : k = j
          rotate_left
          · have hjk2 : j < k := by
              by_cases h : j < k
              · exact h
              · exact absurd rfl (hmin k (by omega))
            have HZ : Hid (szF rc (k + 1) = szF rc k) := sz_old rc k (.inr ⟨j, hjk2, htj⟩)
            have n1 : ¬ (j : Int) = (k : Int) := by omega
            clear hmin htj hjk
            go_wp2_with fail
            go_roundw
            case rel => exact ⟨k + 1, by omega, by go_num, by rw [HZ.out], HB⟩
            case measure => simp [intOf]; omega
          · subst hjk
            have HZ : Hid (szF rc (k + 1) = szF rc k + 1) := sz_new rc k he hmin
            clear hmin htj hj e1
            obtain ⟨id, hid⟩ : ∃ id, id = (rc k).task := ⟨_, rfl⟩
            have hsome : (stF rc m id).isSome = true := (stF_isSome rc m id).2 ⟨by rw [hid]; exact he, k, hlt, hid.symm⟩
            obtain ⟨st, hst⟩ := Option.isSome_iff_exists.1 hsome
            have HST : Hid (stF rc m id = some st) := hst
            have HSU : Hid (stF (ofL (subL rc id m)) (subL rc id m).length id = some st) := (own_records rc id m).trans hst
            have HIS : Hid (id.size ≤ maxLen) := by rw [hid]; exact HTS.out k hlt
            have HRS : Hid (∀ j, j < (subL rc id m).length → (ofL (subL rc id m) j).task.size ≤ maxLen) := fun j hj => by
              have hmem : ofL (subL rc id m) j ∈ subL rc id m := by
                unfold ofL
                rw [List.getD_eq_getElem?_getD, List.getElem?_eq_getElem hj]
                exact List.getElem_mem hj
              obtain ⟨l, hl, e⟩ := subL_mem rc id m _ hmem
              rw [e]
              exact HTS.out l hl
            rw [← hid] at c0 ⊢
            clear hid he hsome hst
            have hmk := makeRecs m hm4
            go_wp2_with fail
            clear hmk c0
            go_loopw [28, 29] (fun v i wr => ∃ j : Nat, j ≤ m ∧ i = .int .i64 j ∧ v = .slice (some ⟨wo.heap.size, 0, none⟩) (subL rc id j).length m ∧ Hid (OwnRecs wr wo.heap.size wo.heap.size m (subL rc id j)) ∧ Hid (Below wo.heap.size wo wr)) (fun _ i _ => m - (intOf i).toNat)
            case atStart => exact ⟨0, Nat.zero_le _, rfl, rfl, OwnRecs.made wo m hm4, (Below.refl _ _).alloc (Nat.le_refl _) _⟩
            case round =>
              obtain ⟨j, hj, rfl, rfl, HO, HB2⟩ := hrel
              have HRr : Hid (RecRow wr rg m rc) := fun j hj i v hv => cell_later HB2.out (HRo.out j hj i v hv)
              have HLL : Hid ((subL rc id j).length ≤ j) := subL_len rc id j
              by_cases hlt2 : j < m
              · have j0 : (0 : Int) ≤ (j : Int) := by omega
                have j1 : (j : Int) < (m : Int) := by omega
                go_upto_region 21 with fail
                go_cut [182] from 161 to 182 (fun v w' => v = .bool ((rc j).keeps id) ∧ w' = wr)
                case first =>
                  obtain ⟨c0, -, c2, -, -, c5, -⟩ := HRr.out.cells j hlt2
                  by_cases h1 : (rc j).task = id
                  · have e1 : (rc j).keeps id = true := by simp [Rec.keeps, h1]
                    rw [h1] at c0
                    clear h1
                    go_wp2_with fail
                    go_meet
                    case rel => exact ⟨by rw [e1], rfl⟩
                  · have e0 : ((rc j).task.toList == id.toList) = false := str_same _ _ h1
                    by_cases hd : (rc j).disp = true
                    · rw [hd] at c2
                      by_cases hev : (rc j).ev = startS
                      · have e1 : (rc j).keeps id = true := by simp [Rec.keeps, Rec.isStart, hd, hev]
                        rw [hev] at c5
                        unfold startS at c5
                        clear h1 hd hev
                        go_wp2_with fail
                        go_meet
                        case rel => exact ⟨by rw [e1], rfl⟩
                      · have e1 : (rc j).keeps id = false := by simp [Rec.keeps, Rec.isStart, h1, hev]
                        have e2 : ((rc j).ev.toList == [115, 116, 97, 114, 116, 101, 100]) = false := str_ne _ _ hev
                        clear h1 hd hev
                        go_wp2_with fail
                        go_meet
                        case rel => exact ⟨by rw [e1], rfl⟩
                    · have e1 : (rc j).keeps id = false := by simp [Rec.keeps, Rec.isStart, h1, hd]
                      have e2 : (rc j).disp = false := by simpa using hd
                      rw [e2] at c2
                      clear h1 hd e2
                      go_wp2_with fail
                      go_meet
                      case rel => exact ⟨by rw [e1], rfl⟩
                case rest =>
                  obtain ⟨rfl, hwc⟩ := hcut
                  obtain rfl := hwc.symm
                  clear hwc
                  cases hkp : (rc j).keeps id
                  · have HS : Hid (subL rc id (j + 1) = subL rc id j) := by
                      show (if _ then _ else _) = _
                      rw [if_neg (by rw [hkp]; simp)]
                    go_wp2_with fail
                    go_roundw
                    case rel => exact ⟨j + 1, by omega, by go_num, by rw [HS.out], by rw [HS.out]; exact HO, HB2⟩
                    case measure => simp [intOf]; omega
                  · have HS : Hid (subL rc id (j + 1) = subL rc id j ++ [rc j]) := by
                      show (if _ then _ else _) = _
                      rw [if_pos hkp]
                    obtain ⟨c0, c1, c2, c3, c4, c5, c6, c7, c8, c9, c10⟩ := HRr.out.cells j hlt2
                    go_wp2_with (first | (refine wpList_pushRec rfl _ _ rfl wo.heap.size wo.heap.size m (subL rc id j) rfl ?k2 wr.heap.size (rc j) ?k3 ?n1 ?n2 ?_))
                    case k2 => exact HO.out.alloc _
                    case k3 => rfl
                    case n1 => exact rangeAt_new wr (rc j)
                    case n2 => have := HLL.out; omega
                    intro w3 ho3 hg3
                    have HO3 : Hid (OwnRecs w3 wo.heap.size wo.heap.size m (subL rc id j ++ [rc j])) := ho3
                    have hB2 := HB2.out.size
                    have HB3 : Hid (Below wo.heap.size wo w3) := (HB2.out.alloc hB2 _).grown hg3 (by simp; omega) (fun x hx => by cases hx; exact Nat.le_refl _)
                    clear ho3 hg3 hB2 c0 c1 c2 c3 c4 c5 c6 c7 c8 c9 c10
                    go_wp2_with fail
                    go_roundw
                    case rel => exact ⟨j + 1, by omega, by go_num, by rw [HS.out, List.length_append]; rfl, by rw [HS.out]; exact HO3, HB3⟩
                    case measure => simp [intOf]; omega
              · have ejm : m = j := by omega
                subst ejm
                go_wp2_with fail
                refine (states12 wo.heap.size (subL rc id m).length m (ofL (subL rc id m)) wr HO.out.row HRS.out (by have := HLL.out; omega)).mono ?_
                rintro e w8 ⟨rfl, hm8, hb8⟩
                have HB8 : Hid (Below wo.heap.size wo w8) := HB2.out.trans (hb8.mono HB2.out.size)
                have HM8 : Hid (MapN w8 mb (szF rc m) (stF rc m)) := HMo.out.of_block (HB8.out.block _ (by omega))
                have HN8 : Hid (∀ o, MapN (w8.alloc o) wr.heap.size (szF (ofL (subL rc id m)) (subL rc id m).length) (stF (ofL (subL rc id m)) (subL rc id m).length)) := fun o => hm8.alloc o
                clear hm8 hb8 HO HB2 HRr HLL HRS HMo HRo
                generalize szF (ofL (subL rc id m)) (subL rc id m).length = sz2 at *
                generalize stF (ofL (subL rc id m)) (subL rc id m).length = f2 at *
                have heq := fun w => eqIn44 9996 st w
                have hg44 := guard44
                obtain ⟨⟨p0, p1, p2, p3, p4, p5, p6, p7, p8, p9, p10⟩, tk, at_, uw, car⟩ := st
                unfold St.val at heq
                simp only at heq
                go_wp2_with (first | (refine wpList_haveV rfl _ _ rfl mb (szF rc m) (stF rc m) rfl HM8.out id rfl HIS.out _ HST.out (.agg #[.string p0, .pointer p1, .bool p2, .int .i64 p3, .bool p4, .string p5, .int .i64 p6, .string p7, .int .u64 p8, .int .i64 p9, .string p10, .bool tk, .int .i64 at_, .bool uw, .bool car]) rfl ?_) | (refine wpList_haveV rfl _ _ rfl wr.heap.size sz2 f2 rfl (HN8.out _) id rfl HIS.out _ HSU.out (.agg #[.string p0, .pointer p1, .bool p2, .int .i64 p3, .bool p4, .string p5, .int .i64 p6, .string p7, .int .u64 p8, .int .i64 p9, .string p10, .bool tk, .int .i64 at_, .bool uw, .bool car]) rfl ?_))
                clear heq
                go_roundw
                case rel =>
                  have hx : Below w5.heap.size w5 w8 := HB.out.trans (HB8.out.mono hbo)
                  have hxs := hx.size
                  exact ⟨k + 1, by omega, by go_num, by rw [HZ.out]; go_num, (hx.alloc hxs _).alloc (by simp; omega) _⟩
                case measure => simp [intOf]; omega
      · obtain rfl : k = m := by omega
        go_wp2_with (first | (refine wpList_lenN rfl _ rfl mb (szF rc k) (stF rc k) rfl HMo.out ?_))
        go_ret
        exact ⟨rfl, HB5.out.trans (HB.out.mono HB5.out.size)⟩
end Go.Proofs.Qxb6605248a
