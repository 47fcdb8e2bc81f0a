/- zzStateAsModel, walked. -/
import Derived.Test.Qxb6605248aModP
import Derived.Test.Qxb6605248aStEq
set_option linter.unusedVariables false
namespace Go.Proofs.Qxb6605248a
open Go.RowKit Go.Maps

def StAt (s : St) (w : World) (b : Nat) : Prop := RecAt s.last w b ∧ w.cell? ⟨b, 11, none⟩ = some (.bool s.ticked) ∧ w.cell? ⟨b, 12, none⟩ = some (.int .i64 s.att) ∧ w.cell? ⟨b, 13, none⟩ = some (.bool s.uw) ∧ w.cell? ⟨b, 14, none⟩ = some (.bool s.car)
theorem StAt.of_block {s : St} {w w' : World} {b : Nat} (h : StAt s w b) (e : w'.heap[b]? = w.heap[b]?) : StAt s w' b := by
  have c : ∀ i, w'.cell? ⟨b, i, none⟩ = w.cell? ⟨b, i, none⟩ := fun i => World.cell?_of_block e
  obtain ⟨h1, h2⟩ := h
  refine ⟨h1.of_block e, ?_⟩
  simp only [c]
  exact h2

set_option maxHeartbeats 1000000 in
theorem flags34 (s : St) (w : World) : Calls Try.prog 34 #[s.val] w fun e w' => e = .returned (.tuple #[.bool s.uw, .bool s.car]) ∧ Below w.heap.size w w' := by
  obtain ⟨⟨p0, p1, p2, p3, p4, p5, p6, p7, p8, p9, p10⟩, tk, at_, uw, car⟩ := s
  unfold St.val
  simp only
  go_enter Try.func34, Try.ntmps34
  go_wp2_with fail
  go_quiet (fail)
  go_wp2_with fail
  go_ret2
  exact ⟨rfl, below_drewN ((Below.refl _ _).alloc (Nat.le_refl _) _) _⟩

set_option maxRecDepth 4000 in
set_option maxHeartbeats 8000000 in
theorem asModel15 (rg m c : Nat) (rc : Nat → Rec) (id : ByteArray) (d : Int) (s : St) (w : World) (hr : RecRow w rg m rc) (hm : m ≤ 4096) (hd : -1 ≤ d ∧ d < m) (hs : Model rc id d m s) :
    Calls Try.prog 15 #[.slice (some ⟨rg, 0, none⟩) m c, .string id, .int .i64 d, s.val] w fun e w' => e = .returned (.bool true) ∧ Below w.heap.size w w' := by
  obtain ⟨hd0, hd1⟩ := hd
  have HR0 : Hid (RecRow w rg m rc) := hr
  have HS : Hid (Model rc id d m s) := hs
  clear hr hs
  obtain ⟨⟨p0, p1, p2, p3, p4, p5, p6, p7, p8, p9, p10⟩, tk, at_, uw, car⟩ := s
  unfold St.val
  simp only
  go_enter Try.func15, Try.ntmps15
  go_wp2_with fail
  obtain ⟨w1, hw1⟩ : ∃ w1 : World, w1 = w.alloc (.cells #[.string p0, .pointer p1, .bool p2, .int .i64 p3, .bool p4, .string p5, .int .i64 p6, .string p7, .int .u64 p8, .int .i64 p9, .string p10, .bool tk, .int .i64 at_, .bool uw, .bool car] 44) := ⟨_, rfl⟩
  have HX : Hid (StAt ⟨⟨p0, p1, p2, p3, p4, p5, p6, p7, p8, p9, p10⟩, tk, at_, uw, car⟩ w1 w.heap.size) := by
    rw [hw1]
    refine ⟨⟨?_, ?_, ?_, ?_, ?_, ?_, ?_, ?_, ?_, ?_, ?_⟩, ?_, ?_, ?_, ?_⟩ <;> simp
  have HB1 : Hid (Below w.heap.size w w1) := by rw [hw1]; exact (Below.refl _ _).alloc (Nat.le_refl _) _
  have hsz1 : Hid (w.heap.size < w1.heap.size) := by rw [hw1]; exact (by simp : w.heap.size < (w.alloc _).heap.size)
  rw [← hw1]
  clear hw1
  have HR : Hid (RecRow w1 rg m rc) := fun j hj i v hv => cell_later HB1.out (HR0.out j hj i v hv)
  clear HR0
  obtain ⟨sb, hsb⟩ : ∃ sb, sb = w.heap.size := ⟨_, rfl⟩
  rw [← hsb] at HX hsz1
  have HSB : Hid (sb = w.heap.size) := hsb
  simp only [← hsb]
  clear hsb
  go_loopw [9, 10, 11] (fun l a i wr => ∃ k : Nat, k ≤ m ∧ i = .int .i64 k ∧ l = .int .i64 (lastM rc id k) ∧ a = .int .i64 (attM rc id d k) ∧ wr = w1) (fun _ _ i _ => m - (intOf i).toNat)
  case atStart => exact ⟨0, Nat.zero_le _, rfl, rfl, rfl, rfl⟩
  case round =>
    obtain ⟨k, hk, rfl, rfl, rfl, hw⟩ := hrel
    obtain rfl := hw.symm
    clear hw
    have ha0 := (attM_le rc id d k).1
    have ha1 := (attM_le rc id d k).2
    by_cases hlt : k < m
    · obtain ⟨c0, -, -, -, -, c5, -⟩ := HR.out.cells k hlt
      have i0 : (0 : Int) ≤ (k : Int) := by omega
      have i1 : (k : Int) < (m : Int) := by omega
      by_cases h1 : (rc k).task = id
      · by_cases h2 : (rc k).ev = tickS
        · have HL : Hid (lastM rc id (k + 1) = lastM rc id k) := lastM_skip rc id k (fun h => h.2 h2)
          have HA : Hid (attM rc id d (k + 1) = attM rc id d k) := if_neg (fun h => h.2 h2)
          rw [h1] at c0
          rw [h2] at c5
          unfold tickS at c5
          clear h1 h2
          go_wp2_with fail
          go_roundw
          case rel => exact ⟨k + 1, by omega, by go_num, by rw [HL.out], by rw [HA.out], by first | rfl | trivial⟩
          case measure => simp [intOf]; omega
        · have HL : Hid (lastM rc id (k + 1) = k) := lastM_own rc id k h1 h2
          have HA : Hid (attM rc id d (k + 1) = if opensM rc id d k = true then attM rc id d k + 1 else attM rc id d k) := if_pos ⟨h1, h2⟩
          have e2 : ((rc k).ev.toList == [116, 105, 99, 107, 101, 100]) = false := str_ne _ _ h2
          rw [h1] at c0
          clear h1 h2
          go_upto_region 7 with fail
          clear c0 e2
          go_cut [9, 66] from 39 to 66 (fun l v w' => l = .int .i64 (lastM rc id k) ∧ v = .bool (opensM rc id d k) ∧ w' = w1)
          case first =>
            by_cases g1 : d ≤ (k : Int)
            · rcases lastM_cases rc id k with hl | ⟨p, hp, hl⟩
              · have e1 : opensM rc id d k = true := by simp [opensM, hl, g1]
                rw [hl]
                go_wp2_with fail
                go_meet
                case rel => exact ⟨by rw [hl], by rw [e1], rfl⟩
              · obtain ⟨-, -, -, -, -, f5, -⟩ := HR.out.cells p (by omega)
                have q0 : (0 : Int) ≤ (p : Int) := by omega
                have q1 : (p : Int) < (m : Int) := by omega
                have q2 : ¬ (p : Int) < 0 := by omega
                by_cases g2 : (rc p).ev = startS
                · by_cases g3 : (p : Int) < d
                  · by_cases g4 : (rc k).ev = startS
                    · have e1 : opensM rc id d k = true := by simp [opensM, hl, g1, g3, g4]
                      rw [hl]
                      rw [g2] at f5
                      rw [g4] at c5
                      unfold startS at f5 c5
                      clear g2 g4
                      go_wp2_with fail
                      go_meet
                      case rel => exact ⟨by rw [hl], by rw [e1], rfl⟩
                    · have e1 : opensM rc id d k = false := by simp [opensM, hl, recAt_nat, g2, g4, q2]
                      have e3 : ((rc k).ev.toList == [115, 116, 97, 114, 116, 101, 100]) = false := str_ne _ _ g4
                      rw [hl]
                      rw [g2] at f5
                      unfold startS at f5
                      clear g2 g4
                      go_wp2_with fail
                      go_meet
                      case rel => exact ⟨by rw [hl], by rw [e1], rfl⟩
                  · have e1 : opensM rc id d k = false := by simp [opensM, hl, recAt_nat, g2, g3, q2]
                    rw [hl]
                    rw [g2] at f5
                    unfold startS at f5
                    clear g2
                    go_wp2_with fail
                    go_meet
                    case rel => exact ⟨by rw [hl], by rw [e1], rfl⟩
                · have e1 : opensM rc id d k = true := by simp [opensM, hl, recAt_nat, g1, g2]
                  have e3 : ((rc p).ev.toList == [115, 116, 97, 114, 116, 101, 100]) = false := str_ne _ _ g2
                  rw [hl]
                  clear g2
                  go_wp2_with fail
                  go_meet
                  case rel => exact ⟨by rw [hl], by rw [e1], rfl⟩
            · have e1 : opensM rc id d k = false := by simp [opensM, g1]
              go_wp2_with fail
              go_meet
              case rel => exact ⟨rfl, by rw [e1], rfl⟩
          case rest =>
            obtain ⟨rfl, rfl, hwc⟩ := hcut
            obtain rfl := hwc.symm
            clear hwc
            cases hop : opensM rc id d k
            · have HA2 : Hid (attM rc id d (k + 1) = attM rc id d k) := HA.out.trans (if_neg (by rw [hop]; simp))
              go_wp2_with fail
              go_roundw
              case rel => exact ⟨k + 1, by omega, by go_num, by rw [HL.out], by rw [HA2.out], by first | rfl | trivial⟩
              case measure => simp [intOf]; omega
            · have HA2 : Hid (attM rc id d (k + 1) = attM rc id d k + 1) := HA.out.trans (if_pos hop)
              go_wp2_with fail
              go_roundw
              case rel => exact ⟨k + 1, by omega, by go_num, by rw [HL.out], by rw [HA2.out], by first | rfl | trivial⟩
              case measure => simp [intOf]; omega
      · have HL : Hid (lastM rc id (k + 1) = lastM rc id k) := lastM_skip rc id k (fun h => h1 h.1)
        have HA : Hid (attM rc id d (k + 1) = attM rc id d k) := if_neg (fun h => h1 h.1)
        have e1 : ((rc k).task.toList == id.toList) = false := str_same _ _ h1
        clear h1
        go_wp2_with fail
        go_roundw
        case rel => exact ⟨k + 1, by omega, by go_num, by rw [HL.out], by rw [HA.out], by first | rfl | trivial⟩
        case measure => simp [intOf]; omega
    · have ekm : m = k := by omega
      subst ekm
      have hl0 : -1 ≤ lastM rc id m := by rcases lastM_cases rc id m with h | ⟨p, hp, h⟩ <;> omega
      have hl1 := lastM_lt rc id m
      obtain ⟨lo, hlo⟩ : ∃ lo : Nat, (lo : Int) = lastM rc id m + 1 := ⟨(lastM rc id m + 1).toNat, by omega⟩
      have hlm : lo ≤ m := by omega
      go_wp2_with fail
      go_loopw [12, 13] (fun b i wr => ∃ k : Nat, ∃ t : Bool, lo ≤ k ∧ k ≤ m ∧ i = .int .i64 k ∧ b = .bool t ∧ Hid (t = true ↔ ∃ i : Nat, i < k ∧ lastM rc id m < i ∧ (rc i).task = id ∧ (rc i).ev = tickS) ∧ wr = w1) (fun _ i _ => m - (intOf i).toNat)
      case atStart => exact ⟨lo, false, Nat.le_refl _, hlm, by rw [hlo], rfl, ⟨(fun h => by cases h), (fun ⟨i, h1, h2, _⟩ => by omega)⟩, rfl⟩
      case round =>
        obtain ⟨k, t, hlk, hk2, rfl, rfl, HT, hw⟩ := hrel
        obtain rfl := hw.symm
        clear hw
        by_cases hlt2 : k < m
        · obtain ⟨c0, -, -, -, -, c5, -⟩ := HR.out.cells k hlt2
          have i0 : (0 : Int) ≤ (k : Int) := by omega
          have i1 : (k : Int) < (m : Int) := by omega
          have same : ∀ hno : ¬ ((rc k).task = id ∧ (rc k).ev = tickS), (t = true ↔ ∃ i : Nat, i < k + 1 ∧ lastM rc id m < i ∧ (rc i).task = id ∧ (rc i).ev = tickS) := fun hno => by
            rw [HT.out]
            constructor
            · rintro ⟨i, h1, h2⟩
              exact ⟨i, by omega, h2⟩
            · rintro ⟨i, h1, h2, h3, h4⟩
              by_cases hik : i = k
              · subst hik
                exact absurd ⟨h3, h4⟩ hno
              · exact ⟨i, by omega, h2, h3, h4⟩
          by_cases h1 : (rc k).task = id
          · by_cases h2 : (rc k).ev = tickS
            · have HT2 : Hid (true = true ↔ ∃ i : Nat, i < k + 1 ∧ lastM rc id m < i ∧ (rc i).task = id ∧ (rc i).ev = tickS) := ⟨fun _ => ⟨k, by omega, by omega, h1, h2⟩, fun _ => rfl⟩
              rw [h1] at c0
              rw [h2] at c5
              unfold tickS at c5
              clear h1 h2 same
              go_wp2_with fail
              go_roundw
              case rel => exact ⟨k + 1, true, by omega, by omega, by go_num, rfl, HT2, by first | rfl | trivial⟩
              case measure => simp [intOf]; omega
            · have HT2 : Hid (t = true ↔ ∃ i : Nat, i < k + 1 ∧ lastM rc id m < i ∧ (rc i).task = id ∧ (rc i).ev = tickS) := same (fun h => h2 h.2)
              have e2 : ((rc k).ev.toList == [116, 105, 99, 107, 101, 100]) = false := str_ne _ _ h2
              rw [h1] at c0
              clear h1 h2 same
              go_wp2_with fail
              go_roundw
              case rel => exact ⟨k + 1, t, by omega, by omega, by go_num, rfl, HT2, by first | rfl | trivial⟩
              case measure => simp [intOf]; omega
          · have HT2 : Hid (t = true ↔ ∃ i : Nat, i < k + 1 ∧ lastM rc id m < i ∧ (rc i).task = id ∧ (rc i).ev = tickS) := same (fun h => h1 h.1)
            have e1 : ((rc k).task.toList == id.toList) = false := str_same _ _ h1
            clear h1 same
            go_wp2_with fail
            go_roundw
            case rel => exact ⟨k + 1, t, by omega, by omega, by go_num, rfl, HT2, by first | rfl | trivial⟩
            case measure => simp [intOf]; omega
        · have ekm : m = k := by omega
          subst ekm
          have htk : tk = t := by
            have h1 := HS.out.tick
            have h2 := HT.out
            have h3 : tk = true ↔ t = true := h1.trans h2.symm
            cases tk <;> cases t <;> simp_all
          subst htk
          have hat : at_ = attM rc id d m := HS.out.att
          rw [← hat] at ha0 ha1 ⊢
          clear HT hlo hlk hk2 hat
          have hsb1 := hsz1.out
          rcases lastM_cases rc id m with hl | ⟨p, hp, hl⟩
          · have huw := HS.out.uw
            have hcar := HS.out.car
            have hlast := HS.out.last
            simp only at huw hcar hlast
            rw [hl] at huw hcar hlast
            have hz : recAt rc (-1) = Rec.zero := if_pos (by omega)
            rw [hz] at huw hcar hlast
            rw [show decide (Rec.zero.ev = startS) = false by decide] at huw hcar
            simp only [Bool.false_and] at huw hcar
            unfold Rec.zero at hlast
            simp only [Rec.mk.injEq] at hlast
            obtain ⟨rfl, rfl, rfl, rfl, rfl, rfl, rfl, rfl, rfl, rfl, rfl⟩ := hlast
            subst huw hcar
            rw [hl]
            clear HS hl hl0 hl1 hz
            obtain ⟨⟨x0, x1, x2, x3, x4, x5, x6, x7, x8, x9, x10⟩, x11, x12, x13, x14⟩ := HX.out
            go_upto_region 20 with fail
            clear x0 x1 x2 x3 x4 x5 x6 x7 x8 x9 x10 x11 x12 x13 x14
            obtain ⟨w2, hw2⟩ : ∃ w2 : World, w2 = w1.alloc (.cells #[.string ⟨#[]⟩, .pointer none, .bool false, .int .i64 0, .bool false, .string ⟨#[]⟩, .int .i64 0, .string ⟨#[]⟩, .int .u64 0, .int .i64 0, .string ⟨#[]⟩] 41) := ⟨_, rfl⟩
            have HW2 : Hid (RecAt ⟨⟨#[]⟩, none, false, 0, false, ⟨#[]⟩, 0, ⟨#[]⟩, 0, 0, ⟨#[]⟩⟩ w2 w1.heap.size) := by rw [hw2]; refine ⟨?_, ?_, ?_, ?_, ?_, ?_, ?_, ?_, ?_, ?_, ?_⟩ <;> simp
            have HB2 : Hid (Below w1.heap.size w1 w2) := by rw [hw2]; exact (Below.refl _ _).alloc (Nat.le_refl _) _
            rw [← hw2]
            have hs2 : Hid (w1.heap.size < w2.heap.size) := by rw [hw2]; exact (by simp : w1.heap.size < (w1.alloc _).heap.size)
            clear hw2
            have HX2 : Hid (StAt ⟨⟨⟨#[]⟩, none, false, 0, false, ⟨#[]⟩, 0, ⟨#[]⟩, 0, 0, ⟨#[]⟩⟩, tk, at_, false, false⟩ w2 sb) := HX.out.of_block (HB2.out.block _ hsz1.out)
            obtain ⟨⟨x0, x1, x2, x3, x4, x5, x6, x7, x8, x9, x10⟩, x11, x12, x13, x14⟩ := HX2.out
            simp only at x0 x1 x2 x3 x4 x5 x6 x7 x8 x9 x10 x11 x12 x13 x14
            go_wp2_with fail
            clear x0 x1 x2 x3 x4 x5 x6 x7 x8 x9 x10 x11 x12 x13 x14
            refine (flags34 ⟨⟨⟨#[]⟩, none, false, 0, false, ⟨#[]⟩, 0, ⟨#[]⟩, 0, 0, ⟨#[]⟩⟩, tk, at_, false, false⟩ w2).mono ?_
            rintro e w3 ⟨rfl, hb3⟩
            have HX3 : Hid (StAt ⟨⟨⟨#[]⟩, none, false, 0, false, ⟨#[]⟩, 0, ⟨#[]⟩, 0, 0, ⟨#[]⟩⟩, tk, at_, false, false⟩ w3 sb) := HX2.out.of_block (hb3.block _ (Nat.lt_trans hsz1.out hs2.out))
            have HW3 : Hid (RecAt ⟨⟨#[]⟩, none, false, 0, false, ⟨#[]⟩, 0, ⟨#[]⟩, 0, 0, ⟨#[]⟩⟩ w3 w1.heap.size) := HW2.out.of_block (hb3.block _ hs2.out)
            have hz1 := HB1.out.size
            have hz2 := HB2.out.size
            have HBF : Hid (Below w.heap.size w w3) := (HB1.out.trans (HB2.out.mono hz1)).trans (hb3.mono (Nat.le_trans hz1 hz2))
            clear hb3 hz1 hz2
            generalize w1.heap.size = wb at *
            obtain ⟨⟨x0, x1, x2, x3, x4, x5, x6, x7, x8, x9, x10⟩, x11, x12, x13, x14⟩ := HX3.out
            simp only at x0 x1 x2 x3 x4 x5 x6 x7 x8 x9 x10 x11 x12 x13 x14
            obtain ⟨y0, y1, y2, y3, y4, y5, y6, y7, y8, y9, y10⟩ := HW3.out
            simp only at y0 y1 y2 y3 y4 y5 y6 y7 y8 y9 y10
            have heq := fun w => eqIn41 9997 ⟨⟨#[]⟩, none, false, 0, false, ⟨#[]⟩, 0, ⟨#[]⟩, 0, 0, ⟨#[]⟩⟩ w
            unfold Rec.val at heq
            simp only at heq
            have hg41 := guard41
            go_wp2_with fail
            go_ret
            exact ⟨rfl, HBF.out⟩
          · have huw := HS.out.uw
            have hcar := HS.out.car
            have hlast := HS.out.last
            simp only at huw hcar hlast
            rw [hl, recAt_nat] at huw hcar hlast
            rw [← hlast] at huw hcar
            simp only at huw hcar
            obtain ⟨c0, c1, c2, c3, c4, c5, c6, c7, c8, c9, c10⟩ := HR.out.cells p hp
            rw [← hlast] at c0 c1 c2 c3 c4 c5 c6 c7 c8 c9 c10
            simp only at c0 c1 c2 c3 c4 c5 c6 c7 c8 c9 c10
            have q0 : (0 : Int) ≤ (p : Int) := by omega
            have q1 : (p : Int) < (m : Int) := by omega
            have hrg : rg < w1.heap.size := World.block_lt_of_cell? _ _ c0
            rw [hl]
            clear HS hlast hl hl0 hl1
            by_cases g : p5 = startS
            · by_cases g2 : d ≤ (p : Int)
              · have e1 : uw = true := by rw [huw]; simp [g, g2]
                have e2 : car = false := by rw [hcar]; simp; omega
                subst e1 e2 g
                unfold startS at c5 HX ⊢
                clear huw hcar
                have g3 : ¬ (p : Int) < d := by omega
                obtain ⟨⟨x0, x1, x2, x3, x4, x5, x6, x7, x8, x9, x10⟩, x11, x12, x13, x14⟩ := HX.out
                go_upto_region 20 with fail
                clear x0 x1 x2 x3 x4 x5 x6 x7 x8 x9 x10 x11 x12 x13 x14
                obtain ⟨w2, hw2⟩ : ∃ w2 : World, w2 = w1.alloc (.cells #[.string p0, .pointer p1, .bool p2, .int .i64 p3, .bool p4, .string ⟨#[115, 116, 97, 114, 116, 101, 100]⟩, .int .i64 p6, .string p7, .int .u64 p8, .int .i64 p9, .string p10] 41) := ⟨_, rfl⟩
                have HW2 : Hid (RecAt ⟨p0, p1, p2, p3, p4, ⟨#[115, 116, 97, 114, 116, 101, 100]⟩, p6, p7, p8, p9, p10⟩ w2 w1.heap.size) := by rw [hw2]; refine ⟨?_, ?_, ?_, ?_, ?_, ?_, ?_, ?_, ?_, ?_, ?_⟩ <;> simp
                have HB2 : Hid (Below w1.heap.size w1 w2) := by rw [hw2]; exact (Below.refl _ _).alloc (Nat.le_refl _) _
                rw [← hw2]
                have hs2 : Hid (w1.heap.size < w2.heap.size) := by rw [hw2]; exact (by simp : w1.heap.size < (w1.alloc _).heap.size)
                clear hw2
                have HX2 : Hid (StAt ⟨⟨p0, p1, p2, p3, p4, ⟨#[115, 116, 97, 114, 116, 101, 100]⟩, p6, p7, p8, p9, p10⟩, tk, at_, true, false⟩ w2 sb) := HX.out.of_block (HB2.out.block _ hsz1.out)
                obtain ⟨⟨x0, x1, x2, x3, x4, x5, x6, x7, x8, x9, x10⟩, x11, x12, x13, x14⟩ := HX2.out
                simp only at x0 x1 x2 x3 x4 x5 x6 x7 x8 x9 x10 x11 x12 x13 x14
                go_wp2_with fail
                clear x0 x1 x2 x3 x4 x5 x6 x7 x8 x9 x10 x11 x12 x13 x14
                refine (flags34 ⟨⟨p0, p1, p2, p3, p4, ⟨#[115, 116, 97, 114, 116, 101, 100]⟩, p6, p7, p8, p9, p10⟩, tk, at_, true, false⟩ w2).mono ?_
                rintro e w3 ⟨rfl, hb3⟩
                have HX3 : Hid (StAt ⟨⟨p0, p1, p2, p3, p4, ⟨#[115, 116, 97, 114, 116, 101, 100]⟩, p6, p7, p8, p9, p10⟩, tk, at_, true, false⟩ w3 sb) := HX2.out.of_block (hb3.block _ (Nat.lt_trans hsz1.out hs2.out))
                have HW3 : Hid (RecAt ⟨p0, p1, p2, p3, p4, ⟨#[115, 116, 97, 114, 116, 101, 100]⟩, p6, p7, p8, p9, p10⟩ w3 w1.heap.size) := HW2.out.of_block (hb3.block _ hs2.out)
                have hz1 := HB1.out.size
                have hz2 := HB2.out.size
                have HBF : Hid (Below w.heap.size w w3) := (HB1.out.trans (HB2.out.mono hz1)).trans (hb3.mono (Nat.le_trans hz1 hz2))
                clear hb3 hz1 hz2
                generalize w1.heap.size = wb at *
                obtain ⟨⟨x0, x1, x2, x3, x4, x5, x6, x7, x8, x9, x10⟩, x11, x12, x13, x14⟩ := HX3.out
                simp only at x0 x1 x2 x3 x4 x5 x6 x7 x8 x9 x10 x11 x12 x13 x14
                obtain ⟨y0, y1, y2, y3, y4, y5, y6, y7, y8, y9, y10⟩ := HW3.out
                simp only at y0 y1 y2 y3 y4 y5 y6 y7 y8 y9 y10
                have heq := fun w => eqIn41 9997 ⟨p0, p1, p2, p3, p4, ⟨#[115, 116, 97, 114, 116, 101, 100]⟩, p6, p7, p8, p9, p10⟩ w
                unfold Rec.val at heq
                simp only at heq
                have hg41 := guard41
                go_wp2_with fail
                go_ret
                exact ⟨(show Ending.returned (.bool (!decide ((p : Int) < d))) = _ by rw [decide_eq_false (show ¬ (p : Int) < d by omega)]; rfl), HBF.out⟩
              · have e1 : uw = false := by rw [huw]; simp; omega
                have g3 : (p : Int) < d := by omega
                have e2 : car = true := by rw [hcar]; simp [g, g3]
                subst e1 e2 g
                unfold startS at c5 HX ⊢
                clear huw hcar
                obtain ⟨⟨x0, x1, x2, x3, x4, x5, x6, x7, x8, x9, x10⟩, x11, x12, x13, x14⟩ := HX.out
                go_upto_region 20 with fail
                clear x0 x1 x2 x3 x4 x5 x6 x7 x8 x9 x10 x11 x12 x13 x14
                obtain ⟨w2, hw2⟩ : ∃ w2 : World, w2 = w1.alloc (.cells #[.string p0, .pointer p1, .bool p2, .int .i64 p3, .bool p4, .string ⟨#[115, 116, 97, 114, 116, 101, 100]⟩, .int .i64 p6, .string p7, .int .u64 p8, .int .i64 p9, .string p10] 41) := ⟨_, rfl⟩
                have HW2 : Hid (RecAt ⟨p0, p1, p2, p3, p4, ⟨#[115, 116, 97, 114, 116, 101, 100]⟩, p6, p7, p8, p9, p10⟩ w2 w1.heap.size) := by rw [hw2]; refine ⟨?_, ?_, ?_, ?_, ?_, ?_, ?_, ?_, ?_, ?_, ?_⟩ <;> simp
                have HB2 : Hid (Below w1.heap.size w1 w2) := by rw [hw2]; exact (Below.refl _ _).alloc (Nat.le_refl _) _
                rw [← hw2]
                have hs2 : Hid (w1.heap.size < w2.heap.size) := by rw [hw2]; exact (by simp : w1.heap.size < (w1.alloc _).heap.size)
                clear hw2
                have HX2 : Hid (StAt ⟨⟨p0, p1, p2, p3, p4, ⟨#[115, 116, 97, 114, 116, 101, 100]⟩, p6, p7, p8, p9, p10⟩, tk, at_, false, true⟩ w2 sb) := HX.out.of_block (HB2.out.block _ hsz1.out)
                obtain ⟨⟨x0, x1, x2, x3, x4, x5, x6, x7, x8, x9, x10⟩, x11, x12, x13, x14⟩ := HX2.out
                simp only at x0 x1 x2 x3 x4 x5 x6 x7 x8 x9 x10 x11 x12 x13 x14
                go_wp2_with fail
                clear x0 x1 x2 x3 x4 x5 x6 x7 x8 x9 x10 x11 x12 x13 x14
                refine (flags34 ⟨⟨p0, p1, p2, p3, p4, ⟨#[115, 116, 97, 114, 116, 101, 100]⟩, p6, p7, p8, p9, p10⟩, tk, at_, false, true⟩ w2).mono ?_
                rintro e w3 ⟨rfl, hb3⟩
                have HX3 : Hid (StAt ⟨⟨p0, p1, p2, p3, p4, ⟨#[115, 116, 97, 114, 116, 101, 100]⟩, p6, p7, p8, p9, p10⟩, tk, at_, false, true⟩ w3 sb) := HX2.out.of_block (hb3.block _ (Nat.lt_trans hsz1.out hs2.out))
                have HW3 : Hid (RecAt ⟨p0, p1, p2, p3, p4, ⟨#[115, 116, 97, 114, 116, 101, 100]⟩, p6, p7, p8, p9, p10⟩ w3 w1.heap.size) := HW2.out.of_block (hb3.block _ hs2.out)
                have hz1 := HB1.out.size
                have hz2 := HB2.out.size
                have HBF : Hid (Below w.heap.size w w3) := (HB1.out.trans (HB2.out.mono hz1)).trans (hb3.mono (Nat.le_trans hz1 hz2))
                clear hb3 hz1 hz2
                generalize w1.heap.size = wb at *
                obtain ⟨⟨x0, x1, x2, x3, x4, x5, x6, x7, x8, x9, x10⟩, x11, x12, x13, x14⟩ := HX3.out
                simp only at x0 x1 x2 x3 x4 x5 x6 x7 x8 x9 x10 x11 x12 x13 x14
                obtain ⟨y0, y1, y2, y3, y4, y5, y6, y7, y8, y9, y10⟩ := HW3.out
                simp only at y0 y1 y2 y3 y4 y5 y6 y7 y8 y9 y10
                have heq := fun w => eqIn41 9997 ⟨p0, p1, p2, p3, p4, ⟨#[115, 116, 97, 114, 116, 101, 100]⟩, p6, p7, p8, p9, p10⟩ w
                unfold Rec.val at heq
                simp only at heq
                have hg41 := guard41
                go_wp2_with fail
                go_ret
                exact ⟨(show Ending.returned (.bool (!decide (d ≤ (p : Int)))) = _ by rw [decide_eq_false (show ¬ d ≤ (p : Int) by omega)]; rfl), HBF.out⟩
            · have e1 : uw = false := by rw [huw]; simp [g]
              have e2 : car = false := by rw [hcar]; simp [g]
              subst e1 e2
              have e3 : (p5.toList == [115, 116, 97, 114, 116, 101, 100]) = false := str_ne _ _ g
              clear huw hcar g
              obtain ⟨⟨x0, x1, x2, x3, x4, x5, x6, x7, x8, x9, x10⟩, x11, x12, x13, x14⟩ := HX.out
              go_upto_region 20 with fail
              clear x0 x1 x2 x3 x4 x5 x6 x7 x8 x9 x10 x11 x12 x13 x14
              obtain ⟨w2, hw2⟩ : ∃ w2 : World, w2 = w1.alloc (.cells #[.string p0, .pointer p1, .bool p2, .int .i64 p3, .bool p4, .string p5, .int .i64 p6, .string p7, .int .u64 p8, .int .i64 p9, .string p10] 41) := ⟨_, rfl⟩
              have HW2 : Hid (RecAt ⟨p0, p1, p2, p3, p4, p5, p6, p7, p8, p9, p10⟩ w2 w1.heap.size) := by rw [hw2]; refine ⟨?_, ?_, ?_, ?_, ?_, ?_, ?_, ?_, ?_, ?_, ?_⟩ <;> simp
              have HB2 : Hid (Below w1.heap.size w1 w2) := by rw [hw2]; exact (Below.refl _ _).alloc (Nat.le_refl _) _
              rw [← hw2]
              have hs2 : Hid (w1.heap.size < w2.heap.size) := by rw [hw2]; exact (by simp : w1.heap.size < (w1.alloc _).heap.size)
              clear hw2
              have HX2 : Hid (StAt ⟨⟨p0, p1, p2, p3, p4, p5, p6, p7, p8, p9, p10⟩, tk, at_, false, false⟩ w2 sb) := HX.out.of_block (HB2.out.block _ hsz1.out)
              obtain ⟨⟨x0, x1, x2, x3, x4, x5, x6, x7, x8, x9, x10⟩, x11, x12, x13, x14⟩ := HX2.out
              simp only at x0 x1 x2 x3 x4 x5 x6 x7 x8 x9 x10 x11 x12 x13 x14
              go_wp2_with fail
              clear x0 x1 x2 x3 x4 x5 x6 x7 x8 x9 x10 x11 x12 x13 x14
              refine (flags34 ⟨⟨p0, p1, p2, p3, p4, p5, p6, p7, p8, p9, p10⟩, tk, at_, false, false⟩ w2).mono ?_
              rintro e w3 ⟨rfl, hb3⟩
              have HX3 : Hid (StAt ⟨⟨p0, p1, p2, p3, p4, p5, p6, p7, p8, p9, p10⟩, tk, at_, false, false⟩ w3 sb) := HX2.out.of_block (hb3.block _ (Nat.lt_trans hsz1.out hs2.out))
              have HW3 : Hid (RecAt ⟨p0, p1, p2, p3, p4, p5, p6, p7, p8, p9, p10⟩ w3 w1.heap.size) := HW2.out.of_block (hb3.block _ hs2.out)
              have hz1 := HB1.out.size
              have hz2 := HB2.out.size
              have HBF : Hid (Below w.heap.size w w3) := (HB1.out.trans (HB2.out.mono hz1)).trans (hb3.mono (Nat.le_trans hz1 hz2))
              clear hb3 hz1 hz2
              generalize w1.heap.size = wb at *
              obtain ⟨⟨x0, x1, x2, x3, x4, x5, x6, x7, x8, x9, x10⟩, x11, x12, x13, x14⟩ := HX3.out
              simp only at x0 x1 x2 x3 x4 x5 x6 x7 x8 x9 x10 x11 x12 x13 x14
              obtain ⟨y0, y1, y2, y3, y4, y5, y6, y7, y8, y9, y10⟩ := HW3.out
              simp only at y0 y1 y2 y3 y4 y5 y6 y7 y8 y9 y10
              have heq := fun w => eqIn41 9997 ⟨p0, p1, p2, p3, p4, p5, p6, p7, p8, p9, p10⟩ w
              unfold Rec.val at heq
              simp only at heq
              have hg41 := guard41
              go_wp2_with fail
              go_ret
              exact ⟨rfl, HBF.out⟩
end Go.Proofs.Qxb6605248a
