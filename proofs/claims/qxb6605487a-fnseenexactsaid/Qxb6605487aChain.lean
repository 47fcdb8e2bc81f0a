/- seen and ZZSeenChain, walked. -/
import Derived.Test.Qxb6605487aCopy
set_option linter.unusedVariables false
namespace Go.Proofs.Qxb6605487a
open Go.RowKit

theorem firstV_lt (vis : Nat → Bool) (n : Nat) : ∀ d, d ≤ n → ∀ i, firstV vis n d = some i → i < n := by
  intro d
  induction d with
  | zero => intro _ i h; simp [firstV] at h
  | succ d ih =>
    intro hd i h
    unfold firstV at h
    split at h
    · cases h; omega
    · exact ih (by omega) i h
theorem firstV_all (n : Nat) (h : 0 < n) : firstV (fun _ => true) n n = some 0 := by
  cases n with
  | zero => omega
  | succ n => simp [firstV]

/-- what seen answers at the version found -/
def pickV (V : Nat → Value) (D : Nat → Bool) : Option Nat → Value
  | none => .tuple #[.slice none 0 0, .bool false]
  | some i => if D i then .tuple #[.slice none 0 0, .bool false] else .tuple #[V i, .bool true]

set_option maxHeartbeats 1000000 in
theorem seen14_nil (g n : Nat) (V : Nat → Value) (D : Nat → Bool) (C : Nat → Int) (w : World) (hn : nodes w g n V D C) :
    Calls Try.prog 14 #[.pointer none, .pointer (nodeP g n 0)] w fun e w' => e = .returned (pickV V D (firstV (fun _ => true) n n)) ∧ w' = w := by
  by_cases h0 : 0 < n
  · obtain ⟨r0, r1, r2, r3⟩ := hn 0 h0
    simp only [Nat.zero_mul, Nat.zero_add] at r0 r1 r2 r3
    have hp : nodeP g n 0 = some ⟨g, 0, none⟩ := by simp [nodeP, h0]
    rw [hp, firstV_all n h0]
    cases hD : D 0
    · rw [hD] at r1
      go_enter Try.func14, Try.ntmps14
      go_wp2_with fail
      go_ret2
      exact ⟨by simp [pickV, hD], rfl⟩
    · rw [hD] at r1
      go_enter Try.func14, Try.ntmps14
      go_wp2_with fail
      go_ret2
      exact ⟨by simp [pickV, hD], rfl⟩
  · obtain rfl : n = 0 := by omega
    have hp : nodeP g 0 0 = none := by simp [nodeP]
    rw [hp]
    go_enter Try.func14, Try.ntmps14
    go_wp2_with fail
    go_ret2
    exact ⟨rfl, rfl⟩

set_option maxHeartbeats 1000000 in
theorem seen14_view (b g n : Nat) (V : Nat → Value) (D : Nat → Bool) (C : Nat → Int) (w : World) (hv : zeroView w b) (hn : nodes w g n V D C) (hC : ∀ i, i < n → 0 ≤ C i) :
    Calls Try.prog 14 #[.pointer (some ⟨b, 0, none⟩), .pointer (nodeP g n 0)] w fun e w' => e = .returned (pickV V D (firstV (fun i => C i == 0) n n)) ∧ w' = w := by
  have HF := find16 b g n V D C w hv hn hC (nodeP g n 0) rfl
  have HL := firstV_lt (fun i => C i == 0) n n (Nat.le_refl _)
  cases hf : firstV (fun i => C i == 0) n n with
  | none =>
    rw [hf] at HF
    go_enter Try.func14, Try.ntmps14
    go_wp2_with fail
    refine HF.mono ?_
    rintro e w' ⟨rfl, hw⟩
    obtain rfl := hw.symm
    clear hw
    simp only [Option.map]
    go_wp2_with fail
    go_ret2
    exact ⟨rfl, rfl⟩
  | some i =>
    rw [hf] at HF
    obtain ⟨r0, r1, r2, r3⟩ := hn i (HL i hf)
    cases hD : D i
    · rw [hD] at r1
      go_enter Try.func14, Try.ntmps14
      go_wp2_with fail
      refine HF.mono ?_
      rintro e w' ⟨rfl, hw⟩
      obtain rfl := hw.symm
      clear hw
      simp only [Option.map]
      go_wp2_with fail
      go_ret2
      exact ⟨by simp [pickV, hD], rfl⟩
    · rw [hD] at r1
      go_enter Try.func14, Try.ntmps14
      go_wp2_with fail
      refine HF.mono ?_
      rintro e w' ⟨rfl, hw⟩
      obtain rfl := hw.symm
      clear hw
      simp only [Option.map]
      go_wp2_with fail
      go_ret2
      exact ⟨by simp [pickV, hD], rfl⟩

/-- the nodes' cells, laid from the last down to k -/
def nodeCell (V : Nat → Value) (D : Nat → Bool) (C : Nat → Int) (g n k i : Nat) : Value :=
  if k ≤ i / 4 then (if i % 4 = 0 then V (i / 4) else if i % 4 = 1 then .bool (D (i / 4)) else if i % 4 = 2 then .int .u64 (C (i / 4)) else .pointer (nodeP g n (i / 4 + 1)))
  else (if i % 4 = 0 then .slice none 0 0 else if i % 4 = 1 then .bool false else if i % 4 = 2 then .int .u64 0 else .pointer none)

theorem nodeCell_step (V : Nat → Value) (D : Nat → Bool) (C : Nat → Int) (w : World) (g n k : Nat) (h : w.rowIs g 47 (n * 4) (nodeCell V D C g n (k + 1))) :
    ((((w.setCell ⟨g, k * 4, none⟩ (V k)).setCell ⟨g, k * 4 + 1, none⟩ (.bool (D k))).setCell ⟨g, k * 4 + 2, none⟩ (.int .u64 (C k))).setCell ⟨g, k * 4 + 3, none⟩ (.pointer (nodeP g n (k + 1)))).rowIs g 47 (n * 4) (nodeCell V D C g n k) := by
  refine ((((h.set (k * 4) _).set (k * 4 + 1) _).set (k * 4 + 2) _).set (k * 4 + 3) _).congr ?_
  intro i _
  by_cases h4 : i / 4 = k
  · have hk : k ≤ i / 4 := by omega
    have hr : i = k * 4 ∨ i = k * 4 + 1 ∨ i = k * 4 + 2 ∨ i = k * 4 + 3 := by omega
    unfold nodeCell
    rw [if_pos hk, h4]
    rcases hr with rfl | rfl | rfl | rfl
    · rw [if_neg (by omega), if_neg (by omega), if_neg (by omega), if_pos rfl, if_pos (by omega)]
    · rw [if_neg (by omega), if_neg (by omega), if_pos rfl, if_neg (by omega), if_pos (by omega)]
    · rw [if_neg (by omega), if_pos rfl, if_neg (by omega), if_neg (by omega), if_pos (by omega)]
    · rw [if_pos rfl, if_neg (by omega), if_neg (by omega), if_neg (by omega)]
  · rw [if_neg (by omega), if_neg (by omega), if_neg (by omega), if_neg (by omega)]
    unfold nodeCell
    by_cases h5 : k ≤ i / 4
    · rw [if_pos h5, if_pos (show k + 1 ≤ i / 4 by omega)]
    · rw [if_neg h5, if_neg (show ¬ k + 1 ≤ i / 4 by omega)]

theorem nodes_row (V : Nat → Value) (D : Nat → Bool) (C : Nat → Int) (w : World) (g n : Nat) (h : w.rowIs g 47 (n * 4) (nodeCell V D C g n 0)) : nodes w g n V D C := by
  intro k hk
  have h0 := h.cell (i := k * 4) (by omega)
  have h1 := h.cell (i := k * 4 + 1) (by omega)
  have h2 := h.cell (i := k * 4 + 2) (by omega)
  have h3 := h.cell (i := k * 4 + 3) (by omega)
  have e0 : nodeCell V D C g n 0 (k * 4) = V k := by
    unfold nodeCell
    rw [if_pos (by omega), if_pos (by omega), show k * 4 / 4 = k by omega]
  have e1 : nodeCell V D C g n 0 (k * 4 + 1) = .bool (D k) := by
    unfold nodeCell
    rw [if_pos (by omega), if_neg (by omega), if_pos (by omega), show (k * 4 + 1) / 4 = k by omega]
  have e2 : nodeCell V D C g n 0 (k * 4 + 2) = .int .u64 (C k) := by
    unfold nodeCell
    rw [if_pos (by omega), if_neg (by omega), if_neg (by omega), if_pos (by omega), show (k * 4 + 2) / 4 = k by omega]
  have e3 : nodeCell V D C g n 0 (k * 4 + 3) = .pointer (nodeP g n (k + 1)) := by
    unfold nodeCell
    rw [if_pos (by omega), if_neg (by omega), if_neg (by omega), if_neg (by omega), show (k * 4 + 3) / 4 = k by omega]
  rw [e0] at h0
  rw [e1] at h1
  rw [e2] at h2
  rw [e3] at h3
  exact ⟨h0, h1, h2, h3⟩

theorem info47 : (Try.prog.info? 47).map (fun i => (i.zero, i.size, i.bytes)) = some (some (.agg #[.slice none 0 0, .bool false, .int .u64 0, .pointer none]), 4, 48) := by kernel_rfl

/-- is version i seen? -/
def visZ (z : Bool) (C : Nat → Int) (i : Nat) : Bool := !z || C i == 0
theorem visZ_false (C : Nat → Int) : visZ false C = fun _ => true := by funext i; rfl
theorem visZ_true (C : Nat → Int) : visZ true C = fun i => C i == 0 := by funext i; simp [visZ]

/-- what is held of the three slices -/
def Three (w : World) (g1 g2 g3 n : Nat) (A : Nat → Option Addr) (L : Nat → Nat) (D : Nat → Bool) (C : Nat → Int) : Prop :=
  ∀ i, i < n → w.cell? ⟨g1, i, none⟩ = some (.slice (A i) (L i) (L i)) ∧ w.cell? ⟨g2, i, none⟩ = some (.bool (D i)) ∧ w.cell? ⟨g3, i, none⟩ = some (.int .u64 (C i))

theorem pick_form (V : Nat → Value) (D : Nat → Bool) (o : Option Nat) : ∃ v ok, pickV V D o = .tuple #[v, .bool ok] := by
  cases o with
  | none => exact ⟨_, _, rfl⟩
  | some i =>
    cases h : D i
    · exact ⟨V i, true, by simp [pickV, h]⟩
    · exact ⟨.slice none 0 0, false, by simp [pickV, h]⟩

set_option maxHeartbeats 2000000 in
theorem chain12 (z : Bool) (g1 g2 g3 n : Nat) (A : Nat → Option Addr) (L : Nat → Nat) (D : Nat → Bool) (C : Nat → Int) (w : World) (hn : n ≤ 65536) (h : Three w g1 g2 g3 n A L D C) (hC : ∀ i, i < n → 0 ≤ C i) :
    Calls Try.prog 12 #[.bool z, .slice (some ⟨g1, 0, none⟩) n n, .slice (some ⟨g2, 0, none⟩) n n, .slice (some ⟨g3, 0, none⟩) n n] w fun e w' => e = .returned (pickV (fun i => .slice (A i) (L i) (L i)) D (firstV (visZ z C) n n)) ∧ Below w.heap.size w w' := by
  have HH : Hid (Three w g1 g2 g3 n A L D C) := h
  have HC : Hid (∀ i, i < n → 0 ≤ C i) := hC
  clear h hC
  have hmk := fun w => run_make_many (P := Try.prog) 43 47 _ 4 48 Try.underlying43 info47 n (by omega) (by omega) w
  go_enter Try.func12, Try.ntmps12
  go_upto_region 4 with fail
  go_loopw [11, 12] (fun p i wr => ∃ k : Nat, k ≤ n ∧ i = .int .i64 ((k : Int) - 1) ∧ p = .pointer (nodeP w.heap.size n k) ∧ wr.rowIs w.heap.size 47 (n * 4) (nodeCell (fun i => .slice (A i) (L i) (L i)) D C w.heap.size n k) ∧ Below w.heap.size w wr) (fun _ i _ => (intOf i + 1).toNat)
  case atStart =>
    refine ⟨n, Nat.le_refl _, rfl, ?_, ?_, (Below.refl _ _).alloc (Nat.le_refl _) _⟩
    · simp [nodeP]
    · refine (rowIs_made_many w _ (n * 4) 47).congr ?_
      intro i hi
      unfold nodeCell
      rw [if_neg (by omega)]
      have hz : ∀ j, j < 4 → (#[Value.slice none 0 0, Value.bool false, Value.int .u64 0, Value.pointer none] : Array Value)[j]! = if j = 0 then Value.slice none 0 0 else if j = 1 then .bool false else if j = 2 then .int .u64 0 else .pointer none := by
        intro j hj
        match j, hj with
        | 0, _ => rfl
        | 1, _ => rfl
        | 2, _ => rfl
        | 3, _ => rfl
      exact hz (i % 4) (Nat.mod_lt _ (by omega))
  case round =>
    obtain ⟨k, hk, rfl, rfl, hrow, hbel⟩ := hrel
    cases k with
    | zero =>
      have HN : Hid (nodes wr w.heap.size n (fun i => .slice (A i) (L i) (L i)) D C) := nodes_row _ _ _ _ _ _ hrow
      clear hrow
      cases z
      · go_wp2_with fail
        refine (seen14_nil w.heap.size n _ D C wr HN.out).mono ?_
        rintro e w' ⟨rfl, hw⟩
        obtain rfl := hw.symm
        clear hw
        obtain ⟨v, ok, hp⟩ := pick_form (fun i => .slice (A i) (L i) (L i)) D (firstV (fun _ => true) n n)
        rw [hp]
        have HP : Hid _ := hp
        clear hp
        go_wp2_with fail
        go_ret2
        exact ⟨by rw [visZ_false, HP.out]; rfl, hbel⟩
      · have HN2 : Hid (nodes (wr.alloc (.cells #[.int .u64 0, .slice none 0 0, .int .u64 0] 51)) w.heap.size n (fun i => .slice (A i) (L i) (L i)) D C) := by
          have hb : Below wr.heap.size wr (wr.alloc (.cells #[.int .u64 0, .slice none 0 0, .int .u64 0] 51)) := (Below.refl _ _).alloc (Nat.le_refl _) _
          intro i hi
          obtain ⟨h0, h1, h2, h3⟩ := HN.out i hi
          exact ⟨cell_later hb h0, cell_later hb h1, cell_later hb h2, cell_later hb h3⟩
        have HZ : Hid (zeroView (wr.alloc (.cells #[.int .u64 0, .slice none 0 0, .int .u64 0] 51)) wr.heap.size) := by
          show zeroView _ _
          unfold zeroView
          simp
        go_wp2_with fail
        refine (seen14_view wr.heap.size w.heap.size n _ D C _ HZ.out HN2.out HC.out).mono ?_
        rintro e w' ⟨rfl, hw⟩
        obtain rfl := hw.symm
        clear hw
        obtain ⟨v, ok, hp⟩ := pick_form (fun i => .slice (A i) (L i) (L i)) D (firstV (fun i => C i == 0) n n)
        rw [hp]
        have HP : Hid _ := hp
        clear hp
        go_wp2_with fail
        go_ret2
        exact ⟨by rw [visZ_true, HP.out]; rfl, hbel.alloc hbel.size _⟩
    | succ k =>
      have hlt : k < n := by omega
      have ek : (((k + 1 : Nat) : Int) - 1) = (k : Int) := by omega
      rw [ek]
      obtain ⟨t0, t1, t2⟩ := HH.out k hlt
      have r0 : wr.cell? ⟨g1, k, none⟩ = some (.slice (A k) (L k) (L k)) := cell_later hbel t0
      have r1 : wr.cell? ⟨g2, k, none⟩ = some (.bool (D k)) := cell_later hbel t1
      have r2 : wr.cell? ⟨g3, k, none⟩ = some (.int .u64 (C k)) := cell_later hbel t2
      have n1 : ¬ g1 = w.heap.size := by have := World.block_lt_of_cell? _ _ t0; simp only at this; omega
      have n2 : ¬ g2 = w.heap.size := by have := World.block_lt_of_cell? _ _ t1; simp only at this; omega
      have n3 : ¬ g3 = w.heap.size := by have := World.block_lt_of_cell? _ _ t2; simp only at this; omega
      have n1' : ¬ w.heap.size = g1 := fun h => n1 h.symm
      have n2' : ¬ w.heap.size = g2 := fun h => n2 h.symm
      have n3' : ¬ w.heap.size = g3 := fun h => n3 h.symm
      clear t0 t1 t2
      have i0 : (0 : Int) ≤ (k : Int) := by omega
      have i1 : (k : Int) < (n : Int) := by omega
      have s0 := hrow.cell (i := k * 4) (by omega)
      have s1 := hrow.cell (i := k * 4 + 1) (by omega)
      have s2 := hrow.cell (i := k * 4 + 2) (by omega)
      have s3 := hrow.cell (i := k * 4 + 3) (by omega)
      have f0 := hrow.frozen (k * 4)
      have f1 := hrow.frozen (k * 4 + 1)
      have f2 := hrow.frozen (k * 4 + 2)
      have f3 := hrow.frozen (k * 4 + 3)
      have HST : Hid _ := nodeCell_step _ _ _ _ _ _ _ hrow
      clear hrow
      go_wp2_with fail
      go_region_held3 (fun w' => w'.cell? ⟨g1, k, none⟩ = some (.slice (A k) (L k) (L k)) ∧ w'.cell? ⟨g2, k, none⟩ = some (.bool (D k)) ∧ w'.cell? ⟨g3, k, none⟩ = some (.int .u64 (C k))) (first | go_keep) (fail)
      clear r0 r1 r2 s0 s1 s2 s3 f0 f1 f2 f3
      go_wp2_with fail
      go_roundw
      case rel =>
        refine ⟨k, by omega, rfl, ?_, HST.out, (((hbel.drew.setCell (by simp) _).setCell (by simp) _).setCell (by simp) _).setCell (by simp) _⟩
        simp [nodeP, hlt]
      case measure => simp [intOf]
end Go.Proofs.Qxb6605487a
