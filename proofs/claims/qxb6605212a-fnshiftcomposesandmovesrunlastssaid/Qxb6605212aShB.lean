/- Shift, walked: the loops. -/
import Derived.Test.Qxb6605212aShA
set_option linter.unusedVariables false
namespace Go.Proofs.Qxb6605212a
open Go.RowKit

/-- the three slices by their number -/
def three (U D C : POwn) (j : Nat) : POwn := if j = 0 then U else if j = 1 then D else C

theorem lt3 (j : Nat) (h : j < 3) : j = 0 ∨ j = 1 ∨ j = 2 := by omega
theorem three_in {s : StOwn} {lo hi : Nat} (h : s.Laid lo hi) (j : Nat) (hj : j < 3) (ha : (three s.U s.D s.C j).a ≠ none) : lo ≤ (three s.U s.D s.C j).g ∧ (three s.U s.D s.C j).g < hi ∧ (∀ i, i < 3 → i ≠ j → (three s.U s.D s.C i).a ≠ none → (three s.U s.D s.C i).g ≠ (three s.U s.D s.C j).g) ∧
    (s.R.a ≠ none → s.R.g ≠ (three s.U s.D s.C j).g) ∧ ∀ i, i < s.R.n → s.R.a ≠ none → (s.R.B i).a ≠ none → (s.R.B i).g ≠ (three s.U s.D s.C j).g := by
  obtain ⟨m1, m2, m3, h1, h2, h3, h4, u, d, c, r, b⟩ := h
  have key : ∀ i, i < 3 → (three s.U s.D s.C i).a ≠ none → (i = 0 → lo ≤ (three s.U s.D s.C i).g ∧ (three s.U s.D s.C i).g < m1) ∧ (i = 1 → m1 ≤ (three s.U s.D s.C i).g ∧ (three s.U s.D s.C i).g < m2) ∧ (i = 2 → m2 ≤ (three s.U s.D s.C i).g ∧ (three s.U s.D s.C i).g < m3) := by
    intro i hi hia
    refine ⟨?_, ?_, ?_⟩
    · rintro rfl; exact u hia
    · rintro rfl; exact d hia
    · rintro rfl; exact c hia
  have kj := key j hj ha
  have bj : lo ≤ (three s.U s.D s.C j).g ∧ (three s.U s.D s.C j).g < m3 := by
    rcases lt3 j hj with e | e | e
    · have := kj.1 e; omega
    · have := kj.2.1 e; omega
    · have := kj.2.2 e; omega
  refine ⟨bj.1, by omega, ?_, ?_, ?_⟩
  · intro i hi hne hia
    have ki := key i hi hia
    rcases lt3 j hj with e | e | e <;> rcases lt3 i hi with e' | e' | e'
    · omega
    · have := kj.1 e; have := ki.2.1 e'; omega
    · have := kj.1 e; have := ki.2.2 e'; omega
    · have := kj.2.1 e; have := ki.1 e'; omega
    · omega
    · have := kj.2.1 e; have := ki.2.2 e'; omega
    · have := kj.2.2 e; have := ki.1 e'; omega
    · have := kj.2.2 e; have := ki.2.1 e'; omega
    · omega
  · intro hra
    have := r hra
    omega
  · intro i hi hra hba
    have := r hra
    have := b i hi hba
    omega

/-- where the outer loop stands: the first k slices are shifted -/
def ShInv (U D C : POwn) (R : ROwn) (d : Int) (w : World) (k : Nat) : Prop :=
  (∀ j, j < 3 → (if j < k then (three U D C j).shift d else three U D C j).Own w) ∧ R.Own w

theorem shift_a (p : POwn) (d : Int) : (p.shift d).a = p.a ∧ (p.shift d).g = p.g ∧ (p.shift d).n = p.n := ⟨rfl, rfl, rfl⟩
theorem ite_shift_a (p : POwn) (d : Int) (c : Prop) [Decidable c] : (if c then p.shift d else p).a = p.a ∧ (if c then p.shift d else p).g = p.g := by
  by_cases h : c
  · rw [if_pos h]; exact ⟨rfl, rfl⟩
  · rw [if_neg h]; exact ⟨rfl, rfl⟩

/-- one slice more is shifted -/
theorem ShInv.step {s : StOwn} {lo hi : Nat} (hl : s.Laid lo hi) {d : Int} {w w' : World} {k : Nat} (hk : k < 3) (h : ShInv s.U s.D s.C s.R d w k)
    (hrow : (three s.U s.D s.C k).a ≠ none → w'.rowIs (three s.U s.D s.C k).g 63 ((three s.U s.D s.C k).n * 2) (copied (partT (three s.U s.D s.C k).T d (three s.U s.D s.C k).n) (three s.U s.D s.C k).N (three s.U s.D s.C k).n))
    (hoth : ∀ b, b < w.heap.size → ¬ ((three s.U s.D s.C k).a ≠ none ∧ b = (three s.U s.D s.C k).g) → w'.heap[b]? = w.heap[b]?) : ShInv s.U s.D s.C s.R d w' (k + 1) := by
  refine ⟨?_, ?_⟩
  · intro j hj
    by_cases e : j = k
    · subst e
      rw [if_pos (by omega)]
      have hp := h.1 j hj
      rw [if_neg (by omega)] at hp
      rcases hp with hp | ⟨hp1, _⟩
      · exact .inl hp
      · refine .inr ⟨hp1, ?_⟩
        have := hrow (by rw [hp1]; simp)
        exact this.congr (fun i _ => copied_full _ _ _ _ _)
    · have hp := h.1 j hj
      have e2 : (j < k + 1) = (j < k) := by simp; omega
      simp only [e2]
      refine hp.of_block (fun ha => hoth _ (hp.lt ha) ?_)
      rintro ⟨hka, hg⟩
      rw [(ite_shift_a _ _ _).2] at hg
      rw [(ite_shift_a _ _ _).1] at ha
      exact (three_in hl k hk hka).2.2.1 j hj e ha hg
  · have hR := h.2
    have hra : ∀ i, i < s.R.n → s.R.a ≠ none := by
      intro i hi hn
      rcases hR with hR | hR
      · omega
      · rw [hR.1] at hn; cases hn
    refine hR.of_block (fun ha => hoth _ (hR.lt ha) ?_) (fun i hi ha => hoth _ ((hR.B i hi).lt ha) ?_)
    · rintro ⟨hka, hg⟩
      exact (three_in hl k hk hka).2.2.2.1 ha hg
    · rintro ⟨hka, hg⟩
      exact (three_in hl k hk hka).2.2.2.2 i hi (hra i hi) ha hg

set_option maxHeartbeats 4000000 in
theorem shift15 (s : StOwn) (bs lo hi : Nat) (d : Int) (w : World) (hat : s.At w bs) (hown : s.Own w) (hlaid : s.Laid lo hi) (hbs : hi ≤ bs) (hf : s.U.n ≤ 65536 ∧ s.D.n ≤ 65536 ∧ s.C.n ≤ 65536 ∧ s.R.n ≤ 65536) :
    Calls Try.prog 15 #[.pointer (some ⟨bs, 0, none⟩), .int .i64 d] w fun e w' => e = .returned (.tuple #[]) ∧ (s.shift d).At w' bs ∧ (s.shift d).Own w' ∧ Keeps (fun k => k = bs ∨ (lo ≤ k ∧ k < hi)) w w' := by
  obtain ⟨cur, last, dec, U, D, C, bef, idle, R, bst, bur, lost, isl⟩ := s
  have HO : Hid (U.Own w ∧ D.Own w ∧ C.Own w ∧ R.Own w) := hown
  have HL : Hid (StOwn.Laid ⟨cur, last, dec, U, D, C, bef, idle, R, bst, bur, lost, isl⟩ lo hi) := hlaid
  have HFF : Hid (U.n ≤ 65536 ∧ D.n ≤ 65536 ∧ C.n ≤ 65536 ∧ R.n ≤ 65536) := hf
  clear hown hlaid hf
  have hb : bs < w.heap.size := World.rowIs.lt hat
  have c1 := hat.cells.2.1
  have hfr := World.rowIs.frozen hat 1
  have HAT : Hid (StOwn.At ⟨cur, last, dec, U, D, C, bef, idle, R, bst, bur, lost, isl⟩ w bs) := hat
  clear hat
  go_enter Try.func15, Try.ntmps15
  go_wp2
  obtain ⟨w1, hw1⟩ : ∃ w1, w1 = w.setCell ⟨bs, 1, none⟩ (.int .i64 (wrap64 (last + d))) := ⟨_, rfl⟩
  have hat1 : StOwn.At ⟨cur, wrap64 (last + d), dec, U, D, C, bef, idle, R, bst, bur, lost, isl⟩ w1 bs := by rw [hw1]; exact HAT.out.set_last _
  have hk1 : Keeps (fun k => k = bs) w w1 := by rw [hw1]; exact (Keeps.refl (fun k => k = bs) w).setCell (by exact rfl) _
  have hs1 : w1.heap.size = w.heap.size := by rw [hw1]; simp
  rw [← hw1]
  clear hw1 c1 hfr HAT
  have c3 := hat1.cells.2.2.2.1
  have c4 := hat1.cells.2.2.2.2.1
  have c5 := hat1.cells.2.2.2.2.2.1
  have HAT1 : Hid (StOwn.At ⟨cur, wrap64 (last + d), dec, U, D, C, bef, idle, R, bst, bur, lost, isl⟩ w1 bs) := hat1
  clear hat1
  simp only at c3 c4 c5
  go_region_held3 (fun w' => w'.cell? ⟨bs, 3, none⟩ = some (.slice U.a U.n U.n) ∧ w'.cell? ⟨bs, 4, none⟩ = some (.slice D.a D.n D.n) ∧ w'.cell? ⟨bs, 5, none⟩ = some (.slice C.a C.n C.n)) (go_keep) (fail)
  go_wp2
  obtain ⟨w2, hw2⟩ : ∃ w2 : World, w2 = (w1.alloc (.cells #[.slice U.a U.n U.n, .slice D.a D.n D.n, .slice C.a C.n C.n] 26)).drew := ⟨_, rfl⟩
  have hblk2 : ∀ k, k < w.heap.size → w2.heap[k]? = w1.heap[k]? := by intro k hk; rw [hw2]; exact Below.heap_alloc w1 _ k (by omega)
  have hat2 : StOwn.At ⟨cur, wrap64 (last + d), dec, U, D, C, bef, idle, R, bst, bur, lost, isl⟩ w2 bs := World.rowIs.of_block HAT1.out (hblk2 bs hb)
  have hk2 : Keeps (fun k => k = bs ∨ (lo ≤ k ∧ k < hi)) w w2 := by rw [hw2]; exact ((hk1.mono (fun k h => .inl h)).alloc _).drew
  have hz2 : w2.heap.size = w.heap.size + 1 := by rw [hw2]; show (w1.alloc _).heap.size = _; rw [World.size_alloc, hs1]
  have hx2 : ∀ j, j < 3 → w2.cell? ⟨w.heap.size, j, none⟩ = some (.slice (three U D C j).a (three U D C j).n (three U D C j).n) := by
    intro j hj
    have h := World.rowIs_alloc w1 #[.slice U.a U.n U.n, .slice D.a D.n D.n, .slice C.a C.n C.n] 26 (fun i => .slice (three U D C i).a (three U D C i).n (three U D C i).n) (by intro i hi; rcases lt3 i hi with e | e | e <;> subst e <;> rfl)
    have h2 := h.drew.cell (i := j) hj
    rw [hs1] at h2
    rw [hw2]
    exact h2
  have hi2 : ShInv U D C R d w2 0 := by
    have hne : ∀ g, g < hi → g ≠ bs := fun g h => by omega
    have mv : ∀ g, g < w.heap.size → g ≠ bs → w2.heap[g]? = w.heap[g]? := fun g h1 h2 => (hblk2 g h1).trans (hk1.block g h1 h2)
    obtain ⟨oU, oD, oC, oR⟩ := HO.out
    have o3 : ∀ j, j < 3 → (three U D C j).Own w := by intro j hj; rcases lt3 j hj with e | e | e <;> subst e <;> assumption
    refine ⟨?_, ?_⟩
    · intro j hj
      rw [if_neg (Nat.not_lt_zero _)]
      refine (o3 j hj).of_block (fun ha => mv _ ((o3 j hj).lt ha) (hne _ ?_))
      exact (three_in HL.out j hj ha).2.1
    · obtain ⟨m1, m2, m3, h1, h2, h3, h4, u, dd, c, r, b⟩ := HL.out
      exact oR.of_block (fun ha => mv _ (oR.lt ha) (hne _ (r ha).2)) (fun j hj ha => mv _ ((oR.B j hj).lt ha) (hne _ (b j hj ha).2))
  rw [← hw2]
  clear hw2
  obtain ⟨HAT2, HK2, HX2, HI2⟩ : Hid (StOwn.At ⟨cur, wrap64 (last + d), dec, U, D, C, bef, idle, R, bst, bur, lost, isl⟩ w2 bs) ∧ Hid (Keeps (fun k => k = bs ∨ (lo ≤ k ∧ k < hi)) w w2) ∧ Hid (∀ j, j < 3 → w2.cell? ⟨w.heap.size, j, none⟩ = some (.slice (three U D C j).a (three U D C j).n (three U D C j).n)) ∧ Hid (ShInv U D C R d w2 0) := ⟨hat2, hk2, hx2, hi2⟩
  clear hat2 hk2 hx2 hi2 hblk2 c3 c4 c5 HAT1 hk1 hs1
  have HZ2 : Hid (w2.heap.size = w.heap.size + 1) := hz2
  clear hz2
  go_loopw [30] (fun i wr => ∃ k : Nat, k ≤ 3 ∧ i = .int .i64 k ∧ Hid (ShInv U D C R d wr k) ∧ Hid (Keeps (fun k => k = bs ∨ (lo ≤ k ∧ k < hi)) w wr) ∧ Hid (wr.heap[bs]? = w2.heap[bs]?) ∧ Hid (wr.heap[w.heap.size]? = w2.heap[w.heap.size]?) ∧ Hid (wr.heap.size = w.heap.size + 1)) (fun i _ => 3 - (intOf i).toNat)
  case atStart => exact ⟨0, by omega, rfl, HI2, HK2, rfl, rfl, HZ2⟩
  case round =>
    obtain ⟨k, hk, rfl, HI, HK, HB, HX, HZ⟩ := hrel
    by_cases hlt : k < 3
    · have x1 : wr.cell? ⟨w.heap.size, k, none⟩ = some (.slice (three U D C k).a (three U D C k).n (three U D C k).n) := (World.cell?_of_block (w := w2) HX.out).trans (HX2.out k hlt)
      have hown : (three U D C k).Own wr := by have := HI.out.1 k hlt; rw [if_neg (Nat.lt_irrefl _)] at this; exact this
      have HOW : Hid ((three U D C k).Own wr) := hown
      have HN : Hid ((three U D C k).n ≤ 65536) := by
        obtain ⟨f1, f2, f3, f4⟩ := HFF.out
        rcases lt3 k hlt with e | e | e <;> subst e
        · exact f1
        · exact f2
        · exact f3
      clear hown
      obtain ⟨P, hP⟩ : ∃ P, P = three U D C k := ⟨_, rfl⟩
      rw [← hP] at x1 HOW HN
      have HP : Hid (P = three U D C k) := hP
      clear hP
      have hN := HN.out
      obtain ⟨wo, hwo⟩ : ∃ wo : World, wo = wr := ⟨_, rfl⟩
      rw [← hwo] at HI HK HB HX HZ HOW x1 ⊢
      clear hwo
      have i0 : (0 : Int) ≤ (k : Int) := by omega
      have i1 : (k : Int) < 3 := by omega
      obtain ⟨Pa, Pg, Pn, PT, PN⟩ := P
      simp only at x1 hN
      rcases HOW.out with ⟨ha, h0⟩ | ⟨ha, hrow⟩
      · simp only at ha h0
        subst ha
        subst h0
        clear HOW HN hN
        go_wp2
        go_loopw [36] (fun i wi => i = .int .i64 0 ∧ Hid (wi = wo)) (fun _ _ => 0)
        case atStart => exact ⟨rfl, rfl⟩
        case round =>
          obtain ⟨rfl, HW⟩ := hrel
          obtain rfl := HW.out
          clear HW
          go_wp2
          go_roundw
          case rel =>
            refine ⟨k + 1, by omega, by go_num, ?_, HK, HB, HX, HZ⟩
            have hp := HP.out
            refine HI.out.step HL.out hlt (fun hne => ?_) (fun b _ _ => rfl)
            rw [← hp] at hne
            exact absurd rfl hne
          case measure => simp [intOf]; omega
      · simp only at ha hrow
        subst ha
        have HRW : Hid (wo.rowIs Pg 63 (Pn * 2) (copied PT PN Pn)) := hrow
        clear HOW HN hrow
        go_wp2
        go_loopw [36] (fun i wi => ∃ m : Nat, m ≤ Pn ∧ i = .int .i64 m ∧ wi.rowIs Pg 63 (Pn * 2) (copied (partT PT d m) PN Pn) ∧ Hid (Keeps (fun k => k = Pg) wo wi) ∧ Hid (wi.heap.size = wo.heap.size)) (fun i _ => Pn - (intOf i).toNat)
        case atStart =>
          refine ⟨0, Nat.zero_le _, rfl, HRW.out.congr (fun i _ => ?_), Keeps.refl _ _, rfl⟩
          have e : partT PT d 0 = PT := by funext j; simp [partT]
          rw [e]
        case round =>
          obtain ⟨m, hm, rfl, hrow, HKI, HZI⟩ := hrel
          by_cases hmlt : m < Pn
          · have s1 := hrow.cell (i := m * 2) (by omega)
            rw [copied_at0 _ _ _ _ hmlt] at s1
            have e1 : partT PT d m m = PT m := by simp [partT]
            rw [e1] at s1
            have f1 := hrow.frozen (m * 2)
            have HST : Hid _ := copied_shift PT PN d wr Pg Pn m hmlt hrow
            have j0 : (0 : Int) ≤ (m : Int) := by omega
            have j1 : (m : Int) < (Pn : Int) := by omega
            clear e1 hrow
            go_wp2
            go_roundw
            case rel => exact ⟨m + 1, by omega, by go_num, HST.out, HKI.out.setCell (by exact rfl) _, by show (World.setCell _ _ _).heap.size = _; simp; exact HZI.out⟩
            case measure => simp [intOf]; omega
          · obtain rfl : m = Pn := by omega
            clear hmlt
            have HRW2 : Hid _ := hrow
            clear hrow
            go_wp2
            go_roundw
            case rel =>
              have hp := HP.out
              have ki := HKI.out
              have hin : lo ≤ Pg ∧ Pg < hi := by
                have := three_in HL.out k hlt (by show (three U D C k).a ≠ none; rw [← hp]; simp)
                have e : (three U D C k).g = Pg := by rw [← hp]
                exact ⟨by have := this.1; simp only at this; rw [e] at this; exact this, by have := this.2.1; simp only at this; rw [e] at this; exact this⟩
              have hwz := HZ.out
              refine ⟨k + 1, by omega, by go_num, ?_, ?_, ?_, ?_, ?_⟩
              · refine HI.out.step HL.out hlt (fun _ => ?_) (fun b hb1 hb2 => ki.block b hb1 (fun e => hb2 ?_))
                · show wr.rowIs (three U D C k).g 63 ((three U D C k).n * 2) (copied (partT (three U D C k).T d (three U D C k).n) (three U D C k).N (three U D C k).n)
                  rw [← hp]
                  exact HRW2.out
                · show (three U D C k).a ≠ none ∧ b = (three U D C k).g
                  rw [← hp]
                  exact ⟨by simp, e⟩
              · exact HK.out.trans (ki.mono (fun b e => .inr (by have e' : b = Pg := e; omega)))
              · exact (ki.block bs (by omega) (by show bs ≠ Pg; omega)).trans HB.out
              · have hgz : Pg < w.heap.size := by omega
                exact (ki.block w.heap.size (by omega) (by show w.heap.size ≠ Pg; omega)).trans HX.out
              · exact HZI.out.trans hwz
            case measure => simp [intOf]; omega
    · obtain rfl : k = 3 := by omega
      clear hlt hk
      have hat3 : StOwn.At ⟨cur, wrap64 (last + d), dec, U, D, C, bef, idle, R, bst, bur, lost, isl⟩ wr bs := World.rowIs.of_block HAT2.out HB.out
      have HAT3 : Hid (StOwn.At ⟨cur, wrap64 (last + d), dec, U, D, C, bef, idle, R, bst, bur, lost, isl⟩ wr bs) := hat3
      have c8 := hat3.cells.2.2.2.2.2.2.2.2.1
      simp only at c8
      clear hat3
      obtain ⟨wo, hwo⟩ : ∃ wo : World, wo = wr := ⟨_, rfl⟩
      rw [← hwo] at HI HK HB HX HZ HAT3 c8 ⊢
      clear hwo
      have HLR : Hid (R.a ≠ none → lo ≤ R.g ∧ R.g < hi) := by
        obtain ⟨m1, m2, m3, h1, h2, h3, h4, u, dd, c, r, b⟩ := HL.out
        intro hra
        have := r hra
        simp only at this
        omega
      have HLB : Hid (∀ j, j < R.n → (R.B j).a ≠ none → R.g < (R.B j).g ∧ (R.B j).g < hi) := by
        obtain ⟨m1, m2, m3, h1, h2, h3, h4, u, dd, c, r, b⟩ := HL.out
        exact b
      have HL3 : Hid (∀ j, j < 3 → (three U D C j).a ≠ none → (three U D C j).g < hi ∧ (R.a ≠ none → R.g ≠ (three U D C j).g)) := fun j hj ha => ⟨(three_in HL.out j hj ha).2.1, (three_in HL.out j hj ha).2.2.2.1⟩
      obtain ⟨Ra, Rg, Rn, RS, RF, RE, RB⟩ := R
      simp only at c8
      have hRn : Rn ≤ 65536 := HFF.out.2.2.2
      have HO3 := HI.out.1
      rcases HI.out.2 with ⟨ha, h0⟩ | ⟨ha, hrow, hfl⟩
      · simp only at ha h0
        subst ha
        subst h0
        go_wp2
        go_loopw [55] (fun i wi => i = .int .i64 0 ∧ Hid (wi = wo)) (fun _ _ => 0)
        case atStart => exact ⟨rfl, rfl⟩
        case round =>
          obtain ⟨rfl, HW⟩ := hrel
          obtain ⟨w6, hw6⟩ : ∃ w6 : World, w6 = wr := ⟨_, rfl⟩
          have hwo : w6 = wo := hw6.trans HW.out
          have hat6 : StOwn.At ⟨cur, wrap64 (last + d), dec, U, D, C, bef, idle, ⟨none, Rg, 0, RS, RF, RE, RB⟩, bst, bur, lost, isl⟩ w6 bs := by rw [hwo]; exact HAT3.out
          have hk6 : Keeps (fun k => k = bs ∨ (lo ≤ k ∧ k < hi)) w w6 := by rw [hwo]; exact HK.out
          have hmv : ∀ w7 : World, (∀ k, k ≠ bs → w7.heap[k]? = w6.heap[k]?) → (U.shift d).Own w7 ∧ (D.shift d).Own w7 ∧ (C.shift d).Own w7 ∧ (ROwn.shift d ⟨none, Rg, 0, RS, RF, RE, RB⟩).Own w7 := by
            intro w7 h7
            rw [hwo] at h7
            have o3 : ∀ j, j < 3 → ((three U D C j).shift d).Own w7 := by
              intro j hj
              have h := HO3 j hj
              rw [if_pos hj] at h
              refine h.of_block (fun ha => h7 _ ?_)
              have := (HL3.out j hj ha).1
              show (three U D C j).g ≠ bs
              omega
            exact ⟨o3 0 (by omega), o3 1 (by omega), o3 2 (by omega), .inl ⟨rfl, rfl⟩⟩
          rw [← hw6]
          clear hw6 hwo HW c8
          have q9 := hat6.cells.2.2.2.2.2.2.2.2.2.1
          have q10 := hat6.cells.2.2.2.2.2.2.2.2.2.2.1
          have q11 := hat6.cells.2.2.2.2.2.2.2.2.2.2.2.1
          have q12 := hat6.cells.2.2.2.2.2.2.2.2.2.2.2.2
          have f9 := World.rowIs.frozen hat6 9
          have f11 := World.rowIs.frozen hat6 11
          simp only at q9 q10 q11 q12
          have HAT6 : Hid (StOwn.At ⟨cur, wrap64 (last + d), dec, U, D, C, bef, idle, ⟨none, Rg, 0, RS, RF, RE, RB⟩, bst, bur, lost, isl⟩ w6 bs) := hat6
          have HMV : Hid (∀ w7 : World, (∀ k, k ≠ bs → w7.heap[k]? = w6.heap[k]?) → (U.shift d).Own w7 ∧ (D.shift d).Own w7 ∧ (C.shift d).Own w7 ∧ (ROwn.shift d ⟨none, Rg, 0, RS, RF, RE, RB⟩).Own w7) := hmv
          have HK6 : Hid (Keeps (fun k => k = bs ∨ (lo ≤ k ∧ k < hi)) w w6) := hk6
          clear hat6 hmv hk6
          cases bur
          · cases isl
            · go_wp2
              go_end0
              exact ⟨rfl, HAT6.out, HMV.out _ (fun k _ => rfl), HK6.out⟩
            · go_wp2
              go_end0
              exact ⟨rfl, HAT6.out.set_lost _, HMV.out _ (fun k hk => heap_set _ _ _ _ _ hk), HK6.out.setCell (by exact .inl rfl) _⟩
          · cases isl
            · go_wp2
              go_end0
              exact ⟨rfl, HAT6.out.set_bst _, HMV.out _ (fun k hk => heap_set _ _ _ _ _ hk), HK6.out.setCell (by exact .inl rfl) _⟩
            · go_wp2
              go_end0
              exact ⟨rfl, (HAT6.out.set_bst _).set_lost _, HMV.out _ (fun k hk => (heap_set _ _ _ _ _ hk).trans (heap_set _ _ _ _ _ hk)), (HK6.out.setCell (by exact .inl rfl) _).setCell (by exact .inl rfl) _⟩
      · simp only at ha hrow hfl
        subst ha
        have HRW : Hid (wo.rowIs Rg 43 (Rn * 4) (runCell RS RF RE RB Rn)) := hrow
        have HFL : Hid (∀ j, j < Rn → (RB j).Own wo) := hfl
        clear hrow hfl
        go_wp2
        go_loopw [55] (fun i wi => ∃ m : Nat, m ≤ Rn ∧ i = .int .i64 m ∧ wi.rowIs Rg 43 (Rn * 4) (runCell RS (partT RF d m) RE RB Rn) ∧ Hid (Keeps (fun k => k = Rg) wo wi) ∧ Hid (wi.heap.size = wo.heap.size)) (fun i _ => Rn - (intOf i).toNat)
        case atStart =>
          refine ⟨0, Nat.zero_le _, rfl, HRW.out.congr (fun i _ => ?_), Keeps.refl _ _, rfl⟩
          have e : partT RF d 0 = RF := by funext j; simp [partT]
          rw [e]
        case round =>
          obtain ⟨m, hm, rfl, hrow, HKI, HZI⟩ := hrel
          have hbg : bs ≠ Rg := by
            have := HLR.out (by simp)
            omega
          have HBI : Hid (wr.heap[bs]? = wo.heap[bs]?) := HKI.out.block bs (by have := HZ.out; omega) hbg
          have c8i : wr.cell? ⟨bs, 8, none⟩ = some (.slice (some ⟨Rg, 0, none⟩) Rn Rn) := (World.cell?_of_block (w := wo) HBI.out).trans c8
          by_cases hmlt : m < Rn
          · have s1 := hrow.cell (i := m * 4 + 1) (by omega)
            have e1 : runCell RS (partT RF d m) RE RB Rn (m * 4 + 1) = .int .i64 (RF m) := by
              unfold runCell
              rw [if_pos (by omega), if_neg (by omega), if_pos (by omega), show (m * 4 + 1) / 4 = m by omega]
              simp [partT]
            rw [e1] at s1
            have f1 := hrow.frozen (m * 4 + 1)
            have HST : Hid _ := runCell_shift RS RF RE RB d wr Rg Rn m hrow
            have j0 : (0 : Int) ≤ (m : Int) := by omega
            have j1 : (m : Int) < (Rn : Int) := by omega
            clear e1 hrow c8
            go_wp2
            go_roundw
            case rel => exact ⟨m + 1, by omega, by go_num, HST.out, HKI.out.setCell (by exact rfl) _, by show (World.setCell _ _ _).heap.size = _; simp; exact HZI.out⟩
            case measure => simp [intOf]; omega
          · obtain rfl : m = Rn := by omega
            obtain ⟨w6, hw6⟩ : ∃ w6 : World, w6 = wr := ⟨_, rfl⟩
            rw [← hw6] at HBI hrow HKI HZI c8i ⊢
            have hat6 : StOwn.At ⟨cur, wrap64 (last + d), dec, U, D, C, bef, idle, ⟨some ⟨Rg, 0, none⟩, Rg, m, RS, RF, RE, RB⟩, bst, bur, lost, isl⟩ w6 bs := World.rowIs.of_block HAT3.out HBI.out
            have hrg := HLR.out (by simp)
            have hk6 : Keeps (fun k => k = bs ∨ (lo ≤ k ∧ k < hi)) w w6 := HK.out.trans (HKI.out.mono (fun b e => .inr (by have e' : b = Rg := e; rw [e']; exact hrg)))
            have hmv : ∀ w7 : World, (∀ k, k ≠ bs → w7.heap[k]? = w6.heap[k]?) → (U.shift d).Own w7 ∧ (D.shift d).Own w7 ∧ (C.shift d).Own w7 ∧ (ROwn.shift d ⟨some ⟨Rg, 0, none⟩, Rg, m, RS, RF, RE, RB⟩).Own w7 := by
              intro w7 h7
              have o3 : ∀ j, j < 3 → ((three U D C j).shift d).Own w7 := by
                intro j hj
                have h := HO3 j hj
                rw [if_pos hj] at h
                refine h.of_block (fun ha => ?_)
                have h1 := HL3.out j hj ha
                have h2 : (three U D C j).g ≠ bs := by omega
                exact (h7 _ h2).trans (HKI.out.block _ (h.lt ha) (fun e => h1.2 (by simp) e.symm))
              refine ⟨o3 0 (by omega), o3 1 (by omega), o3 2 (by omega), .inr ⟨rfl, ?_, fun j hj => ?_⟩⟩
              · have hr := hrow.congr (fun i hi => runCell_full RS RF RE RB d m i hi)
                exact hr.of_block (h7 _ (by intro e; exact hbg e.symm))
              · have ho := HFL.out j hj
                refine FOwn.Own.of_block ho (fun ha => ?_)
                have h1 := HLB.out j hj ha
                have h2 : (RB j).g ≠ bs := by omega
                exact (h7 _ h2).trans (HKI.out.block _ (ho.lt ha) (by show (RB j).g ≠ Rg; omega))
            clear hw6 hrow c8 hmlt
            have q9 := hat6.cells.2.2.2.2.2.2.2.2.2.1
            have q10 := hat6.cells.2.2.2.2.2.2.2.2.2.2.1
            have q11 := hat6.cells.2.2.2.2.2.2.2.2.2.2.2.1
            have q12 := hat6.cells.2.2.2.2.2.2.2.2.2.2.2.2
            have f9 := World.rowIs.frozen hat6 9
            have f11 := World.rowIs.frozen hat6 11
            simp only at q9 q10 q11 q12
            have HAT6 : Hid (StOwn.At ⟨cur, wrap64 (last + d), dec, U, D, C, bef, idle, ⟨some ⟨Rg, 0, none⟩, Rg, m, RS, RF, RE, RB⟩, bst, bur, lost, isl⟩ w6 bs) := hat6
            have HMV : Hid (∀ w7 : World, (∀ k, k ≠ bs → w7.heap[k]? = w6.heap[k]?) → (U.shift d).Own w7 ∧ (D.shift d).Own w7 ∧ (C.shift d).Own w7 ∧ (ROwn.shift d ⟨some ⟨Rg, 0, none⟩, Rg, m, RS, RF, RE, RB⟩).Own w7) := hmv
            have HK6 : Hid (Keeps (fun k => k = bs ∨ (lo ≤ k ∧ k < hi)) w w6) := hk6
            clear hat6 hmv hk6
            cases bur
            · cases isl
              · go_wp2
                go_end0
                exact ⟨rfl, HAT6.out, HMV.out _ (fun k _ => rfl), HK6.out⟩
              · go_wp2
                go_end0
                exact ⟨rfl, HAT6.out.set_lost _, HMV.out _ (fun k hk => heap_set _ _ _ _ _ hk), HK6.out.setCell (by exact .inl rfl) _⟩
            · cases isl
              · go_wp2
                go_end0
                exact ⟨rfl, HAT6.out.set_bst _, HMV.out _ (fun k hk => heap_set _ _ _ _ _ hk), HK6.out.setCell (by exact .inl rfl) _⟩
              · go_wp2
                go_end0
                exact ⟨rfl, (HAT6.out.set_bst _).set_lost _, HMV.out _ (fun k hk => (heap_set _ _ _ _ _ hk).trans (heap_set _ _ _ _ _ hk)), (HK6.out.setCell (by exact .inl rfl) _).setCell (by exact .inl rfl) _⟩
end Go.Proofs.Qxb6605212a
