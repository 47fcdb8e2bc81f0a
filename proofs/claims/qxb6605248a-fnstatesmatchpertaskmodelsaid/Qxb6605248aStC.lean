/- States, walked. -/
import Derived.Test.Qxb6605248aStB
set_option linter.unusedVariables false
namespace Go.Proofs.Qxb6605248a
open Go.RowKit Go.Maps

theorem MapN.alloc {w : World} {b sz : Nat} {f : ByteArray → Option St} (h : MapN w b sz f) (o : Obj) : MapN (w.alloc o) b sz f := h.of_block (((Below.refl w.heap.size w).alloc (Nat.le_refl _) o).block _ h.lt)
theorem RangeN.alloc {w : World} {b r sz : Nat} {f : ByteArray → Option St} {left : Lit → Bool} {cnt : Nat} (h : RangeN w b r sz f left cnt) (o : Obj) : RangeN (w.alloc o) b r sz f left cnt := h.kept ((Below.refl w.heap.size w).alloc (Nat.le_refl _) o)
/-- the eleven cells of a record that lies alone -/
def RecAt (q : Rec) (w : World) (b : Nat) : Prop :=
    w.cell? ⟨b, 0, none⟩ = some (.string q.task) ∧ w.cell? ⟨b, 1, none⟩ = some (.pointer q.gate) ∧ w.cell? ⟨b, 2, none⟩ = some (.bool q.disp) ∧ w.cell? ⟨b, 3, none⟩ = some (.int .i64 q.att) ∧
    w.cell? ⟨b, 4, none⟩ = some (.bool q.ver) ∧ w.cell? ⟨b, 5, none⟩ = some (.string q.ev) ∧ w.cell? ⟨b, 6, none⟩ = some (.int .i64 q.pid) ∧ w.cell? ⟨b, 7, none⟩ = some (.string q.boot) ∧
    w.cell? ⟨b, 8, none⟩ = some (.int .u64 q.start) ∧ w.cell? ⟨b, 9, none⟩ = some (.int .i64 q.sess) ∧ w.cell? ⟨b, 10, none⟩ = some (.string q.reason)
theorem RecAt.of_block {q : Rec} {w w' : World} {b : Nat} (h : RecAt q w b) (e : w'.heap[b]? = w.heap[b]?) : RecAt q w' b := by
  have c : ∀ i, w'.cell? ⟨b, i, none⟩ = w.cell? ⟨b, i, none⟩ := fun i => World.cell?_of_block e
  unfold RecAt at h ⊢
  simp only [c]
  exact h

theorem startS_is : (startS.toList == [115, 116, 97, 114, 116, 101, 100]) = true := by
  rw [ByteArray.toList_eq]
  rfl

set_option maxRecDepth 4000 in
set_option maxHeartbeats 8000000 in
theorem states12 (rg m c : Nat) (rc : Nat → Rec) (w : World) (hr : RecRow w rg m rc) (hsz : ∀ j, j < m → (rc j).task.size ≤ maxLen) (hm : m ≤ 4096) :
    Calls Try.prog 12 #[.slice (some ⟨rg, 0, none⟩) m c] w fun e w' => e = .returned (.map (some w.heap.size)) ∧ MapN w' w.heap.size (szF rc m) (stF rc m) ∧ Below w.heap.size w w' := by
  have HR : Hid (RecRow w rg m rc) := hr
  have HT : Hid (∀ j, j < m → (rc j).task.size ≤ maxLen) := hsz
  clear hr hsz
  have hmm := @run_makeMap Try.prog
  go_enter Try.func12, Try.ntmps12
  go_wp2_with fail
  clear hmm
  go_loopw [12] (fun i wr => ∃ k : Nat, k ≤ m ∧ i = .int .i64 k ∧ Hid (MapN wr w.heap.size (szF rc k) (stF rc k)) ∧ Hid (Below w.heap.size w wr)) (fun i _ => m - (intOf i).toNat)
  case atStart => exact ⟨0, Nat.zero_le _, rfl, MapN.made w, (Below.refl _ _).alloc (Nat.le_refl _) _⟩
  case round =>
    obtain ⟨k, hk, rfl, HM, HB⟩ := hrel
    by_cases hlt : k < m
    · obtain ⟨c0, c1, c2, c3, c4, c5, c6, c7, c8, c9, c10⟩ := (show RecRow wr rg m rc from fun j hj i v hv => cell_later HB.out (HR.out j hj i v hv)).cells k hlt
      have HSZ : Hid ((rc k).task.size ≤ maxLen) := HT.out k hlt
      have HST : Hid (stF rc (k + 1) = stepF (stF rc k) (rc k)) := rfl
      have HZT : Hid (szF rc (k + 1) = if (rc k).task = emptyS ∨ (stF rc k (rc k).task).isSome = true then szF rc k else szF rc k + 1) := rfl
      have HZL : Hid (szF rc k ≤ k) := szF_le rc k
      have HAL : Hid (AttLe (stF rc k) k) := attLe rc k
      generalize stF rc k = f at *
      generalize szF rc k = sz at *
      generalize rc k = q at *
      have i0 : (0 : Int) ≤ (k : Int) := by omega
      have i1 : (k : Int) < (m : Int) := by omega
      have hml : w.heap.size < wr.heap.size := HM.out.lt
      go_upto_region 5 with fail
      obtain ⟨w2, hw2⟩ : ∃ w2 : World, w2 = wr.alloc (.cells #[.string q.task, .pointer q.gate, .bool q.disp, .int .i64 q.att, .bool q.ver, .string q.ev, .int .i64 q.pid, .string q.boot, .int .u64 q.start, .int .i64 q.sess, .string q.reason] 41) := ⟨_, rfl⟩
      have HQ : Hid (RecAt q w2 wr.heap.size) := by rw [hw2]; refine ⟨?_, ?_, ?_, ?_, ?_, ?_, ?_, ?_, ?_, ?_, ?_⟩ <;> simp
      have HM2 : Hid (MapN w2 w.heap.size sz f) := by rw [hw2]; exact HM.out.alloc _
      have HB2 : Hid (Below w.heap.size w w2) := by rw [hw2]; exact HB.out.alloc HB.out.size _
      have hs2 : Hid (wr.heap.size < w2.heap.size) := by rw [hw2]; exact (by simp : wr.heap.size < (wr.alloc _).heap.size)
      rw [← hw2]
      clear hw2 c0 c1 c2 c3 c4 c5 c6 c7 c8 c9 c10 HM HB
      obtain ⟨rb, hrb⟩ : ∃ rb, rb = wr.heap.size := ⟨_, rfl⟩
      rw [← hrb] at HQ hml hs2 ⊢
      clear hrb
      go_cut [22] from 16 to 22 (fun v w' => v = .bool q.isStart ∧ w' = w2)
      case first =>
        obtain ⟨-, -, d2, -, -, d5, -⟩ := HQ.out
        by_cases hd : q.disp = true
        · rw [hd] at d2
          by_cases he : q.ev = startS
          · have e1 : q.isStart = true := by simp [Rec.isStart, hd, he]
            rw [he] at d5
            unfold startS at d5
            go_wp2_with fail
            go_meet
            case rel => exact ⟨by rw [e1], rfl⟩
          · have e1 : q.isStart = false := by simp [Rec.isStart, he]
            have e2 : (q.ev.toList == [115, 116, 97, 114, 116, 101, 100]) = false := str_ne _ _ he
            go_wp2_with fail
            go_meet
            case rel => exact ⟨by rw [e1], rfl⟩
        · have e1 : q.isStart = false := by simp [Rec.isStart, hd]
          have e2 : q.disp = false := by simpa using hd
          rw [e2] at d2
          go_wp2_with fail
          go_meet
          case rel => exact ⟨by rw [e1], rfl⟩
      case rest =>
        obtain ⟨rfl, hwc⟩ := hcut
        obtain rfl := hwc.symm
        clear hwc
        go_upto_if 22 with fail
        go_cut [6, 7] from 22 to 39 (fun _ _ w' => Hid (MapN w' w.heap.size sz (preF f q)) ∧ Hid (RecAt q w' rb) ∧ Hid (Below w.heap.size w w'))
        case first =>
          cases hqs : q.isStart
          · have HP : Hid (preF f q = f) := by
              show preF f q = f
              unfold preF
              rw [hqs]
              rfl
            go_wp2_with fail
            go_meet
            case rel => exact ⟨by rw [HP.out]; exact HM2, HQ, HB2⟩
          · have HP : Hid (preF f q = resetF f) := by
              show preF f q = resetF f
              unfold preF
              rw [if_pos hqs]
            go_wp2_with (first | (refine wpList_rangeN rfl _ rfl w.heap.size sz f rfl HM2.out ?_))
            intro w0 left0 hrg0 hg0 hs0
            have HR0 : Hid (RangeN w0 w.heap.size w2.heap.size sz (mixF f left0) left0 sz) := hrg0
            have HQ0 : Hid (RecAt q w0 rb) := HQ.out.of_block (hg0.block _ hs2.out (by simp))
            have HB0 : Hid (Below w.heap.size w w0) := HB2.out.grown hg0 HB2.out.size (fun j hj => by cases hj)
            have hsl : w2.heap.size < w0.heap.size := by omega
            obtain ⟨ib, hib⟩ : ∃ ib, ib = w2.heap.size := ⟨_, rfl⟩
            have hri : rb < ib := by rw [hib]; exact hs2.out
            rw [← hib] at HR0 hs0 hsl ⊢
            obtain ⟨wo, hwo⟩ : ∃ wo : World, wo = wr := ⟨_, rfl⟩
            go_wp2_with fail
            clear hrg0 hg0 HM2 HB2 HQ hib
            go_loopw [6, 7] (fun _ _ wr => ∃ left cnt, Hid (RangeN wr w.heap.size ib sz (mixF f left) left cnt) ∧ Hid (RecAt q wr rb) ∧ Hid (Below w.heap.size w wr) ∧ ib < wr.heap.size) (fun _ _ wr => wr.rangeLeft w.heap.size ib)
            case atStart => exact ⟨left0, sz, HR0, HQ0, HB0, hsl⟩
            case round =>
              clear HR0 HQ0 HB0 hsl
              obtain ⟨left, cnt, HRR, HQR, HBR, hsl⟩ := hrel
              go_wp2_with (first | (refine wpList_nextN rfl _ rfl w.heap.size ib sz _ left cnt rfl HRR.out ?_ ?_))
              · intro hl
                go_wp2_with fail
                go_meet
                case rel => 
                  refine ⟨?_, HQR, HBR⟩
                  show MapN _ _ _ _
                  rw [HP.out, ← mix_end f left hl]
                  exact HRR.out.map
              · intro s st w1 cnt1 hsL hleft hst hrg1 hlt1 hg1 hs1 hen
                have HR1 : Hid (RangeN w1 w.heap.size ib sz (mixF f left) (fun z => left z && !z.sameKey (.string s.data.toList)) cnt1) := hrg1
                have HQ1 : Hid (RecAt q w1 rb) := HQR.out.of_block (hg1.block _ (World.block_lt_of_cell? _ _ HQR.out.1) (by simp; omega))
                have HB1 : Hid (Below w.heap.size w w1) := HBR.out.grown hg1 HBR.out.size (fun j hj => by cases hj; omega)
                have HMX : Hid (setF (mixF f left) s st.reset = mixF f (fun z => left z && !z.sameKey (.string s.data.toList))) := mix_step f left s st hleft hst
                have HFS : Hid ((mixF f left s).isSome = true) := by show (mixF f left s).isSome = true; rw [hst]; rfl
                have HSL : Hid (s.size ≤ maxLen) := hsL
                have HLT : Hid (cnt1 < cnt) := hlt1
                have hsl1 : ib < w1.heap.size := by omega
                obtain ⟨⟨p0, p1, p2, p3, p4, p5, p6, p7, p8, p9, p10⟩, tk, at_, uw, car⟩ := st
                unfold St.val at hen ⊢
                simp only at hen ⊢
                clear hrg1 hg1 hs1 hsL hlt1 hst hleft
                by_cases hev : p5 = startS
                · have HRE : Hid ((⟨⟨p0, p1, p2, p3, p4, p5, p6, p7, p8, p9, p10⟩, tk, at_, uw, car⟩ : St).reset = ⟨⟨p0, p1, p2, p3, p4, p5, p6, p7, p8, p9, p10⟩, tk, 0, false, true⟩) := by
                    show St.reset _ = _
                    simp [St.reset, hev]
                  subst hev
                  unfold startS at hen ⊢
                  go_wp2_with (first | (refine wpList_putR rfl _ _ _ rfl w.heap.size ib sz (mixF f left) (fun z => left z && !z.sameKey (.string s.data.toList)) cnt1 rfl ?k1 ?c1 s ⟨⟨p0, p1, p2, p3, p4, startS, p6, p7, p8, p9, p10⟩, tk, 0, false, true⟩ rfl ?c2 ?k3 ?c3 ?_))
                  case k1 => exact HR1.out.alloc _
                  case c1 => unfold maxLen; have := HZL.out; omega
                  case c2 => exact HSL.out
                  case c3 => exact HFS.out
                  case k3 => rfl
                  intro w3 hrg3 hg3
                  have HR3 : Hid (RangeN w3 w.heap.size ib sz (mixF f (fun z => left z && !z.sameKey (.string s.data.toList))) (fun z => left z && !z.sameKey (.string s.data.toList)) cnt1) := by
                    show RangeN _ _ _ _ _ _ _
                    rw [← HMX.out, HRE.out]
                    exact hrg3
                  have hB1 := HB1.out.size
                  have HQ3 : Hid (RecAt q w3 rb) := (HQ1.out.of_block (((Below.refl w1.heap.size w1).alloc (Nat.le_refl _) _).block _ (by omega))).of_block (hg3.block _ (by simp; omega) (by simp; omega))
                  have HB3 : Hid (Below w.heap.size w w3) := (HB1.out.alloc hB1 _).grown hg3 (by simp; omega) (fun j hj => by cases hj; exact Nat.le_refl _)
                  have hsl3 : ib < w3.heap.size := by have := hg3.size; simp at this; omega
                  clear hrg3 hg3 hen
                  go_wp2_with fail
                  go_roundw
                  case rel => exact ⟨_, cnt1, HR3, HQ3, HB3, hsl3⟩
                  case measure => rw [HR3.out.left_eq, HRR.out.left_eq]; exact HLT.out
                · have HRE : Hid ((⟨⟨p0, p1, p2, p3, p4, p5, p6, p7, p8, p9, p10⟩, tk, at_, uw, car⟩ : St).reset = ⟨⟨p0, p1, p2, p3, p4, p5, p6, p7, p8, p9, p10⟩, tk, 0, false, false⟩) := by
                    show St.reset _ = _
                    simp [St.reset, hev]
                  have e2 : (p5.toList == [115, 116, 97, 114, 116, 101, 100]) = false := str_ne _ _ hev
                  go_wp2_with (first | (refine wpList_putR rfl _ _ _ rfl w.heap.size ib sz (mixF f left) (fun z => left z && !z.sameKey (.string s.data.toList)) cnt1 rfl ?k1 ?c1 s ⟨⟨p0, p1, p2, p3, p4, p5, p6, p7, p8, p9, p10⟩, tk, 0, false, false⟩ rfl ?c2 ?k3 ?c3 ?_))
                  case k1 => exact HR1.out.alloc _
                  case c1 => unfold maxLen; have := HZL.out; omega
                  case c2 => exact HSL.out
                  case c3 => exact HFS.out
                  case k3 => rfl
                  intro w3 hrg3 hg3
                  have HR3 : Hid (RangeN w3 w.heap.size ib sz (mixF f (fun z => left z && !z.sameKey (.string s.data.toList))) (fun z => left z && !z.sameKey (.string s.data.toList)) cnt1) := by
                    show RangeN _ _ _ _ _ _ _
                    rw [← HMX.out, HRE.out]
                    exact hrg3
                  have hB1 := HB1.out.size
                  have HQ3 : Hid (RecAt q w3 rb) := (HQ1.out.of_block (((Below.refl w1.heap.size w1).alloc (Nat.le_refl _) _).block _ (by omega))).of_block (hg3.block _ (by simp; omega) (by simp; omega))
                  have HB3 : Hid (Below w.heap.size w w3) := (HB1.out.alloc hB1 _).grown hg3 (by simp; omega) (fun j hj => by cases hj; exact Nat.le_refl _)
                  have hsl3 : ib < w3.heap.size := by have := hg3.size; simp at this; omega
                  clear hrg3 hg3 hen
                  go_wp2_with fail
                  go_roundw
                  case rel => exact ⟨_, cnt1, HR3, HQ3, HB3, hsl3⟩
                  case measure => rw [HR3.out.left_eq, HRR.out.left_eq]; exact HLT.out
        case rest =>
          clear HM2 HQ HB2 hs2
          obtain ⟨HM2, HQ, HB2⟩ := hcut
          obtain ⟨w3, hw3⟩ : ∃ w3, w3 = wc := ⟨_, rfl⟩
          rw [← hw3] at HM2 HQ HB2 ⊢
          clear hw3
          have HPS : Hid ((preF f q q.task).isSome = (f q.task).isSome) := preF_isSome f q q.task
          have HAP : Hid (0 ≤ ((preF f q q.task).getD St.zero).att ∧ ((preF f q q.task).getD St.zero).att ≤ k) := (HAL.out.pre q).getD _
          by_cases ht : q.task = emptyS
          · obtain ⟨d0, d1, d2, d3, d4, d5, d6, d7, d8, d9, d10⟩ := HQ.out
            have HF1 : Hid (stF rc (k + 1) = preF f q) := HST.out.trans (if_pos ht)
            have HZ1 : Hid (szF rc (k + 1) = sz) := HZT.out.trans (if_pos (.inl ht))
            rw [ht] at d0
            unfold emptyS at d0
            go_wp2_with fail
            go_roundw
            case rel => exact ⟨k + 1, by omega, by go_num, by rw [HF1.out, HZ1.out]; exact HM2, HB2⟩
            case measure => simp [intOf]; omega
          · have HF1 : Hid (stF rc (k + 1) = setF (preF f q) q.task (((preF f q q.task).getD St.zero).step q)) := HST.out.trans (if_neg ht)
            have HZ1 : Hid (szF rc (k + 1) = upSz (preF f q) q.task sz) := by
              show szF rc (k + 1) = _
              unfold upSz
              rw [HZT.out, HPS.out]
              simp [ht]
            have HV : Hid ((holdF (preF f q) (.string q.task.data.toList)).getD St.zero.val = ((preF f q q.task).getD St.zero).val) := by
              show _ = _
              rw [hold_string]
              cases preF f q q.task <;> rfl
            have HK : Hid (keyOf Try.prog 9 (.string q.task) = some (.string q.task.data.toList)) := WideMaps.keyOf_string_mk Try.underlying9 HSZ.out
            clear HST HZT HAL HPS
            generalize (preF f q q.task).getD St.zero = s at *
            generalize preF f q = g at *
            have et : (q.task.toList == []) = false := str_ne _ _ ht
            obtain ⟨task, gate, disp, att, ver, ev, pid, boot, start, sess, reason⟩ := q
            obtain ⟨d0, d1, d2, d3, d4, d5, d6, d7, d8, d9, d10⟩ := HQ.out
            obtain ⟨⟨p0, p1, p2, p3, p4, p5, p6, p7, p8, p9, p10⟩, tk, at_, uw, car⟩ := s
            simp only at *
            unfold St.val at HV
            simp only at HV
            have hrb3 : rb < w3.heap.size := World.block_lt_of_cell? _ _ d0
            have ha0 : 0 ≤ at_ := HAP.out.1
            have ha1 : at_ ≤ k := HAP.out.2
            by_cases hti : ev = tickS
            · have HSP : Hid (St.step ⟨⟨p0, p1, p2, p3, p4, p5, p6, p7, p8, p9, p10⟩, tk, at_, uw, car⟩ ⟨task, gate, disp, att, ver, ev, pid, boot, start, sess, reason⟩ = ⟨⟨p0, p1, p2, p3, p4, p5, p6, p7, p8, p9, p10⟩, true, at_, uw, car⟩) := by
                show St.step _ _ = _
                simp [St.step, hti]
              subst hti
              unfold tickS at d5
              go_wp2_with (first | (refine wpList_look_v rfl _ _ 32 rfl 9 44 law9 Try.underlying32 _ (zero44 _) w.heap.size sz (holdF g) rfl HM2.out.is (.string task) _ rfl HK.out _ HV.out ?_) | (refine wpList_putN rfl _ _ _ rfl w.heap.size sz g rfl ?k1 ?c1 task ⟨⟨p0, p1, p2, p3, p4, p5, p6, p7, p8, p9, p10⟩, true, at_, uw, car⟩ rfl ?c2 ?k3 ?_))
              case k1 => exact HM2.out.alloc _
              case c1 => unfold maxLen; have := HZL.out; omega
              case c2 => exact HSZ.out
              case k3 => rfl
              intro w5 hm5 hg5
              have HM5 : Hid (MapN w5 w.heap.size (szF rc (k + 1)) (stF rc (k + 1))) := by
                show MapN _ _ _ _
                rw [HF1.out, HZ1.out, HSP.out]
                exact hm5
              have hB2 := HB2.out.size
              have HB5 : Hid (Below w.heap.size w w5) := (HB2.out.alloc hB2 _).grown hg5 (by simp; omega) (fun j hj => by cases hj; exact Nat.le_refl _)
              clear hm5 hg5 hB2
              go_wp2_with fail
              go_roundw
              case rel => exact ⟨k + 1, by omega, by go_num, HM5, HB5⟩
              case measure => simp [intOf]; omega
            · have e2 : (ev.toList == [116, 105, 99, 107, 101, 100]) = false := str_ne _ _ hti
              go_upto_region 16 with (first | (refine wpList_look_v rfl _ _ 32 rfl 9 44 law9 Try.underlying32 _ (zero44 _) w.heap.size sz (holdF g) rfl HM2.out.is (.string task) _ rfl HK.out _ HV.out ?_))
              go_cut [67] from 55 to 67 (fun v w' => v = .bool (!uw && ((ev.toList == [115, 116, 97, 114, 116, 101, 100]) || !car)) ∧ w' = w3.alloc (.cells #[.string p0, .pointer p1, .bool p2, .int .i64 p3, .bool p4, .string p5, .int .i64 p6, .string p7, .int .u64 p8, .int .i64 p9, .string p10, .bool tk, .int .i64 at_, .bool uw, .bool car] 44))
              case first =>
                cases uw
                · cases hev : (ev.toList == [115, 116, 97, 114, 116, 101, 100])
                  · cases car
                    · go_wp2_with fail
                      go_meet
                      case rel => exact ⟨by rw [hev]; rfl, rfl⟩
                    · go_wp2_with fail
                      go_meet
                      case rel => exact ⟨by rw [hev]; rfl, rfl⟩
                  · go_wp2_with fail
                    go_meet
                    case rel => exact ⟨by rw [hev]; rfl, rfl⟩
                · go_wp2_with fail
                  go_meet
                  case rel => exact ⟨rfl, rfl⟩
              case rest =>
                obtain ⟨rfl, hwc⟩ := hcut
                subst hwc
                obtain ⟨eb, heb⟩ : ∃ eb : Bool, eb = (ev.toList == [115, 116, 97, 114, 116, 101, 100]) := ⟨_, rfl⟩
                rw [← heb]
                obtain ⟨cb, hcb⟩ : ∃ cb : Bool, cb = (!uw && (eb || !car)) := ⟨_, rfl⟩
                rw [← hcb]
                obtain ⟨a1, ha1'⟩ : ∃ a1 : Int, a1 = if cb = true then at_ + 1 else at_ := ⟨_, rfl⟩
                have hde : eb = decide (ev = startS) := by
                  by_cases hev : ev = startS
                  · rw [heb, hev, startS_is]; simp
                  · rw [heb, str_ne _ _ hev]; simp [hev]
                have HSP : Hid (St.step ⟨⟨p0, p1, p2, p3, p4, p5, p6, p7, p8, p9, p10⟩, tk, at_, uw, car⟩ ⟨task, gate, disp, att, ver, ev, pid, boot, start, sess, reason⟩ = ⟨⟨task, gate, disp, att, ver, ev, pid, boot, start, sess, reason⟩, false, a1, eb, false⟩) := by
                  show St.step _ _ = _
                  unfold St.step
                  rw [if_neg hti]
                  simp only
                  rw [← hde, ← hcb, ← ha1']
                have HA1 : Hid (a1 = if cb = true then at_ + 1 else at_) := ha1'
                have HEB : Hid (eb = (ev.toList == [115, 116, 97, 114, 116, 101, 100])) := heb
                clear hcb ha1' hde heb
                go_upto_if 67 with fail
                go_cut [] from 67 to 71 (fun w' => w' = w3.alloc (.cells #[.string p0, .pointer p1, .bool p2, .int .i64 p3, .bool p4, .string p5, .int .i64 p6, .string p7, .int .u64 p8, .int .i64 p9, .string p10, .bool tk, .int .i64 a1, .bool uw, .bool car] 44))
                case first =>
                  cases cb
                  · go_wp2_with fail
                    go_meet
                    case rel => rw [HA1.out]; rfl
                  · go_wp2_with fail
                    go_meet
                    case rel => rw [HA1.out]; first | rfl | simp
                case rest =>
                  subst hcut
                  have e3 : (ev.toList == [115, 116, 97, 114, 116, 101, 100]) = eb := HEB.out.symm
                  clear HA1
                  go_wp2_with (first | (refine wpList_putN rfl _ _ _ rfl w.heap.size sz g rfl ?k1 ?c1 task ⟨⟨task, gate, disp, att, ver, ev, pid, boot, start, sess, reason⟩, false, a1, eb, false⟩ rfl ?c2 ?k3 ?_))
                  case k1 => exact HM2.out.alloc _
                  case c1 => unfold maxLen; have := HZL.out; omega
                  case c2 => exact HSZ.out
                  case k3 => rfl
                  intro w5 hm5 hg5
                  have HM5 : Hid (MapN w5 w.heap.size (szF rc (k + 1)) (stF rc (k + 1))) := by
                    show MapN _ _ _ _
                    rw [HF1.out, HZ1.out, HSP.out]
                    exact hm5
                  have hB2 := HB2.out.size
                  have HB5 : Hid (Below w.heap.size w w5) := (HB2.out.alloc hB2 _).grown hg5 (by simp; omega) (fun j hj => by cases hj; exact Nat.le_refl _)
                  clear hm5 hg5 hB2
                  go_wp2_with fail
                  go_roundw
                  case rel => exact ⟨k + 1, by omega, by go_num, HM5, HB5⟩
                  case measure => simp [intOf]; omega
    · obtain rfl : k = m := by omega
      go_wp2_with fail
      go_ret
      exact ⟨rfl, HM.out, HB.out⟩
end Go.Proofs.Qxb6605248a
