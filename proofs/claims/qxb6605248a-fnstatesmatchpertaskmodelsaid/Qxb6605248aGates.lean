/- zzCloneGates, walked. -/
import Derived.Test.Qxb6605248aLeafC
set_option linter.unusedVariables false
namespace Go.Proofs.Qxb6605248a
open Go.RowKit

/-- what the gates point at -/
def Gates (w : World) (n : Nat) (P : Nat → Option Addr) (G : Nat → Int) : Prop := ∀ j, j < n → ∀ q, P j = some q → w.cell? q = some (.int .i64 (G j))
theorem Gates.later {w w' : World} {n : Nat} {P : Nat → Option Addr} {G : Nat → Int} (h : Gates w n P G) (hb : Below w.heap.size w w') : Gates w' n P G := fun j hj q e => cell_later hb (h j hj q e)

def gcell (P : Nat → Option Addr) (k j : Nat) : Value := .pointer (if j < k then P j else none)
theorem gcell_step (P : Nat → Option Addr) (k : Nat) (v : Option Addr) (i : Nat) : (if i = k then Value.pointer v else gcell P k i) = gcell (fun j => if j = k then v else P j) (k + 1) i := by
  unfold gcell
  by_cases h1 : i = k
  · subst h1
    simp
  · by_cases h2 : i < k
    · have h3 : i < k + 1 := by omega
      simp [h1, h2, h3]
    · have h3 : ¬ i < k + 1 := by omega
      simp [h1, h2, h3]
theorem gcell_skip (P : Nat → Option Addr) (k i : Nat) : gcell P k i = gcell (fun j => if j = k then none else P j) (k + 1) i := by
  rw [← gcell_step]
  by_cases h1 : i = k
  · subst h1
    simp [gcell]
  · rw [if_neg h1]
/-- gate j is cloned -/
def Cloned (B : Nat) (wr : World) (P P' : Nat → Option Addr) (G : Nat → Int) (j : Nat) : Prop :=
  (P j = none → P' j = none) ∧ ∀ q, P j = some q → ∃ m, P' j = some ⟨m, 0, none⟩ ∧ B < m ∧ wr.cell? ⟨m, 0, none⟩ = some (.int .i64 (G j))
theorem Cloned.later {B : Nat} {wr w' : World} {P P' : Nat → Option Addr} {G : Nat → Int} {j : Nat} (h : Cloned B wr P P' G j) (hk : ∀ m, B < m → m < wr.heap.size → w'.heap[m]? = wr.heap[m]?) : Cloned B w' P P' G j := by
  refine ⟨h.1, fun q hq => ?_⟩
  obtain ⟨m, h1, h2, h3⟩ := h.2 q hq
  refine ⟨m, h1, h2, ?_⟩
  rw [← h3]
  exact World.cell?_of_block (hk m h2 (World.block_lt_of_cell? _ _ h3))
theorem Cloned.congr {B : Nat} {wr : World} {P P' P'' : Nat → Option Addr} {G : Nat → Int} {j : Nat} (h : Cloned B wr P P' G j) (e : P'' j = P' j) : Cloned B wr P P'' G j := by
  unfold Cloned at *
  rw [e]
  exact h

set_option maxHeartbeats 400000 in
theorem clone10_nil (w : World) :
    Calls Try.prog 10 #[.slice none 0 0] w fun e w' => e = .returned (.slice none 0 0) ∧ w' = w := by
  have q := fun w a n c => Lib.run_eql_slice_nil (P := Try.prog) w 23 35 a n c 0 0 Try.underlying23
  go_enter Try.func10, Try.ntmps10
  go_wp2_with fail
  go_ret
  exact ⟨rfl, rfl⟩

set_option maxHeartbeats 2000000 in
theorem clone10 (a : Option Addr) (n c b o : Nat) (P : Nat → Option Addr) (G : Nat → Int) (w : World) (hR : Row w a n b o (fun j => .pointer (P j))) (hG : Gates w n P G) (hn : n ≤ 4096) (hnn : a.isNone = false) :
    Calls Try.prog 10 #[.slice a n c] w fun e w' => ∃ P', e = .returned (.slice (some ⟨w.heap.size, 0, none⟩) n n) ∧ w'.rowIs w.heap.size 35 n (fun j => .pointer (P' j)) ∧ (∀ j, j < n → Cloned w.heap.size w' P P' G j) ∧ Below w.heap.size w w' := by
  have q := fun w a n c => Lib.run_eql_slice_nil (P := Try.prog) w 23 35 a n c 0 0 Try.underlying23
  have hmk := fun w => run_make_many (P := Try.prog) 23 35 _ 1 8 Try.underlying23 info35 n (by omega) (by omega) w
  have HR : Hid (Row w a n b o (fun j => .pointer (P j))) := hR
  have HG : Hid (Gates w n P G) := hG
  clear hR hG
  go_enter Try.func10, Try.ntmps10
  go_wp2_with fail
  go_loopw [4] (fun i wr => ∃ k : Nat, ∃ P' : Nat → Option Addr, k ≤ n ∧ i = .int .i64 k ∧ Hid (wr.rowIs w.heap.size 35 n (gcell P' k)) ∧ Hid (∀ j, j < k → Cloned w.heap.size wr P P' G j) ∧ Hid (Below w.heap.size w wr)) (fun i _ => n - (intOf i).toNat)
  case atStart =>
    refine ⟨0, fun _ => none, Nat.zero_le _, rfl, ?_, fun j hj => by omega, (Below.refl _ _).alloc (Nat.le_refl _) _⟩
    exact (World.rowIs_made w (.pointer none) n 35).congr (fun i _ => by simp [gcell])
  case round =>
    obtain ⟨k, P', hk, rfl, HO, HC, HB⟩ := hrel
    by_cases hlt : k < n
    · obtain rfl : a = some ⟨b, o, none⟩ := HR.out.1 (by omega)
      have t0 : w.cell? ⟨b, o + k, none⟩ = some (.pointer (P k)) := HR.out.2.2 k hlt
      have r1 : wr.cell? ⟨b, o + k, none⟩ = some (.pointer (P k)) := cell_later HB.out t0
      have hbl : b < w.heap.size := World.block_lt_of_cell? _ _ t0
      have hwl : w.heap.size < wr.heap.size := HO.out.lt
      clear t0
      have i0 : (0 : Int) ≤ (k : Int) := by omega
      have i1 : (k : Int) < (n : Int) := by omega
      cases hp : P k with
      | none =>
        rw [hp] at r1
        go_wp2_with fail
        go_roundw
        case rel =>
          refine ⟨k + 1, fun j => if j = k then none else P' j, by omega, by go_num, ?_, fun j hj => ?_, HB⟩
          · exact HO.out.congr (fun i _ => gcell_skip P' k i)
          · by_cases hjk : j < k
            · exact (HC.out j hjk).congr (if_neg (by omega))
            · obtain rfl : j = k := by omega
              exact ⟨fun _ => if_pos rfl, fun q hq => by rw [hp] at hq; cases hq⟩
        case measure => simp [intOf]; omega
      | some qa =>
        rw [hp] at r1
        have r2 : wr.cell? qa = some (.int .i64 (G k)) := cell_later HB.out (HG.out k hlt qa hp)
        obtain ⟨qb, qo, qs⟩ := qa
        have hsp : qs = none := World.cell?_spot r2
        subst hsp
        have s1 := HO.out.cell (i := k) hlt
        have f1 := HO.out.frozen k
        have hA : Below wr.heap.size wr (wr.alloc (.cells #[.int .i64 (G k)] 3)) := (Below.refl _ _).alloc (Nat.le_refl _) _
        have HROW : Hid ((wr.alloc (.cells #[.int .i64 (G k)] 3)).rowIs w.heap.size 35 n (gcell P' k)) := HO.out.of_block (hA.block _ hwl)
        have hnw : ¬ wr.heap.size = w.heap.size := by omega
        have hnw2 : ¬ w.heap.size = wr.heap.size := by omega
        have hblr : b < wr.heap.size := by omega
        have hnb : ¬ b = wr.heap.size := by omega
        go_wp2_with fail
        go_roundw
        case rel =>
          refine ⟨k + 1, fun j => if j = k then some ⟨wr.heap.size, 0, none⟩ else P' j, by omega, by go_num, ?_, fun j hj => ?_, (HB.out.setCell (by simp) _).alloc (by simp; omega) _⟩
          · have h1 := (HO.out.set k (.pointer (some ⟨wr.heap.size, 0, none⟩))).congr (fun i _ => gcell_step P' k (some ⟨wr.heap.size, 0, none⟩) i)
            exact h1.of_block (Below.heap_alloc _ _ _ (by simp; omega))
          · by_cases hjk : j < k
            · refine ((HC.out j hjk).later ?_).congr (if_neg (by omega))
              intro m h1 h2
              rw [Below.heap_alloc _ _ _ (by simp; omega)]
              exact heap_set _ _ _ _ _ (by omega)
            · obtain rfl : j = k := by omega
              refine ⟨fun h => ?_, fun q hq => ⟨wr.heap.size, if_pos rfl, hwl, ?_⟩⟩
              · rw [hp] at h
                cases h
              · exact World.cell?_alloc_at _ _ _ _ (by simp)
        case measure => simp [intOf]; omega
    · obtain rfl : k = n := by omega
      go_wp2_with fail
      go_ret
      refine ⟨P', rfl, HO.out.congr (fun i hi => by unfold gcell; rw [if_pos hi]), HC.out, HB.out⟩

theorem row_rowIs {w : World} {g n : Nat} {t : TypeId} {x : Nat → Value} (h : w.rowIs g t n x) : Row w (some ⟨g, 0, none⟩) n g 0 x :=
  ⟨fun _ => rfl, fun h => by simp at h, fun j hj => by rw [Nat.zero_add]; exact h.cell hj⟩

theorem clone10_own (a : Option Addr) (n c b o : Nat) (P : Nat → Option Addr) (G : Nat → Int) (w : World) (hR : Row w a n b o (fun j => .pointer (P j))) (hG : Gates w n P G) (hn : n ≤ 4096) (hc : a = none → c = 0) :
    Calls Try.prog 10 #[.slice a n c] w fun e w' => ∃ a' g P', e = .returned (.slice a' n n) ∧ Row w' a' n g 0 (fun j => .pointer (P' j)) ∧ Gates w' n P' G ∧ (∀ j, j < n → (P' j).isSome = (P j).isSome) ∧ Below w.heap.size w w' := by
  cases hnn : a.isNone with
  | true =>
    have ha : a = none := by cases a with | none => rfl | some x => simp at hnn
    have h1 := hR.2.1 ha
    have h2 := hc ha
    subst ha h1 h2
    refine (clone10_nil w).mono ?_
    rintro e w' ⟨rfl, rfl⟩
    exact ⟨none, 0, fun _ => none, rfl, ⟨fun h => by omega, fun _ => rfl, fun j hj => by omega⟩, fun j hj => by omega, fun j hj => by omega, Below.refl _ _⟩
  | false =>
    refine (clone10 a n c b o P G w hR hG hn hnn).mono ?_
    rintro e w' ⟨P', rfl, hrow, hcl, hbel⟩
    refine ⟨_, w.heap.size, P', rfl, row_rowIs hrow, ?_, ?_, hbel⟩
    · intro j hj q hq
      cases hp : P j with
      | none => rw [(hcl j hj).1 hp] at hq; cases hq
      | some q0 =>
        obtain ⟨m, h1, h2, h3⟩ := (hcl j hj).2 q0 hp
        rw [h1] at hq
        cases hq
        exact h3
    · intro j hj
      cases hp : P j with
      | none => rw [(hcl j hj).1 hp]
      | some q0 =>
        obtain ⟨m, h1, h2, h3⟩ := (hcl j hj).2 q0 hp
        rw [h1]
        rfl
end Go.Proofs.Qxb6605248a
