/- HOW A STATE THAT CAME IN READS. -/
import Derived.Test.Qxb6605212aData
import Derived.Test.Qxb6605212aStC
import Derived.Deep.Slices
set_option linter.unusedVariables false
namespace Go.Proofs.Qxb6605212a
open Go.ChangeShapes Go.WideShapes Go.ChangeAt Go.RowKit Go.Deep

section
variable {H : Type} {enc : TypeId × Value → H} {w : World} {base : Nat} {spare : Nat → Bool} {held : Bool} {fuel : Nat} {x : DataW H × List MemPlace}

theorem Try.cells22 : Try.prog.cellsOf 22 = 1 := by kernel_rfl
theorem Try.cells68 : Try.prog.cellsOf 68 = 4 := by kernel_rfl
theorem Try.cells41 : Try.prog.cellsOf 41 = 1 := by kernel_rfl
theorem Try.cells32 : Try.prog.cellsOf 32 = 13 := by kernel_rfl
theorem Try.cells4 : Try.prog.cellsOf 4 = 1 := by kernel_rfl
theorem Try.cells23 : Try.prog.cellsOf 23 = 1 := by kernel_rfl
theorem Try.cells30 : Try.prog.cellsOf 30 = 1 := by kernel_rfl

theorem trod_slice_form {t e : TypeId} {v : Value} (ht : Try.prog.underlying t = some (.slice e)) (h : DataW.trod enc Try.prog w base spare held fuel t [v] = some x) : ∃ a n c, v = .slice a n c := by
  rcases open_slice ht h with ⟨h0, _⟩ | ⟨a, len, cap, m, n, D, Pl, h0, _⟩
  · simp at h0; exact ⟨_, _, _, h0⟩
  · simp at h0; exact ⟨_, _, _, h0⟩

theorem open_pin {v : Value} (h : DataW.trod enc Try.prog w base spare held fuel 23 [v] = some x) : ∃ p : PIn, v = .slice p.a p.n p.c ∧ p.In w ∧ p.n ≤ maxLen ∧ ∀ j, j < p.n → -9223372036854775808 ≤ p.T j ∧ p.T j ≤ 9223372036854775807 := by
  obtain ⟨a, n, c, rfl⟩ := trod_slice_form Try.underlying23 h
  obtain ⟨b, o, T, N, h1, h2, h3, h4, h5⟩ := open_points h
  exact ⟨⟨a, n, c, b, o, T, N⟩, rfl, ⟨h2, h3, h4⟩, h1, h5⟩

theorem trod_float {k : FloatKind} {t : TypeId} {v : Value} (ht : Try.prog.underlying t = some (.float k)) (h : DataW.trod enc Try.prog w base spare held fuel t [v] = some x) : ∃ b, v = .float k b := by
  cases fuel with
  | zero => simp [DataW.trod] at h
  | succ n =>
    unfold DataW.trod at h
    rw [ht] at h
    split at h <;> simp_all

theorem open_fin {v : Value} (h : DataW.trod enc Try.prog w base spare held fuel 41 [v] = some x) : ∃ f : FIn, v = .slice f.a f.n f.c ∧ f.In w := by
  rcases open_slice1 Try.underlying41 Try.cells22 h with ⟨h0, _⟩ | ⟨ad, len, cap, m, n, V, D, Pl, h0, _, hl, hm, hmm, _, hx⟩
  · simp at h0
    subst h0
    exact ⟨⟨none, 0, 0, 0, 0, fun _ => 0⟩, rfl, fun h => by simp at h, fun _ => ⟨rfl, rfl⟩, fun j hj => by simp at hj⟩
  · simp at h0
    subst h0
    have hlm : len ≤ m := by rw [hmm]; split <;> omega
    have each : ∀ j, j < len → ∃ bits : Nat, w.cell? (ad.add j) = some (.float .f64 bits) := by
      intro j hj
      obtain ⟨c0, d0⟩ := hx j (by omega)
      obtain ⟨b, e⟩ := trod_float Try.underlying22 d0
      rw [e] at c0
      exact ⟨b, c0⟩
    obtain ⟨X, hX⟩ := choose_lt each
    by_cases h0 : len = 0
    · subst h0
      exact ⟨⟨some ad, 0, cap, 0, 0, X⟩, rfl, fun h => by simp at h, fun h => by simp at h, fun j hj => by simp at hj⟩
    · obtain ⟨b, o, spot⟩ := ad
      have hspot : spot = none := by simpa [Addr.add] using World.cell?_spot (hX 0 (by omega))
      subst hspot
      refine ⟨⟨some ⟨b, o, none⟩, len, cap, b, o, X⟩, rfl, fun _ => rfl, fun h => by simp at h, fun j hj => ?_⟩
      have := hX j hj
      rw [add_plain] at this
      exact this

theorem fieldsOf68 : ∃ f0 f1 f2 f3 : Field, Try.prog.underlying 68 = some (.struct #[f0, f1, f2, f3]) ∧ f0.offset = 0 ∧ f1.offset = 1 ∧ f2.offset = 2 ∧ f3.offset = 3 ∧ f0.type = 3 ∧ f1.type = 2 ∧ f2.type = 2 ∧ f3.type = 41 := ⟨_, _, _, _, Try.underlying68, rfl, rfl, rfl, rfl, rfl, rfl, rfl, rfl⟩

theorem list4 {α : Type} (l : List α) (h : l.length = 4) : ∃ a b c d, l = [a, b, c, d] := by
  match l, h with
  | [a, b, c, d], _ => exact ⟨a, b, c, d, rfl⟩

theorem open_rin {v : Value} (h : DataW.trod enc Try.prog w base spare held fuel 30 [v] = some x) : ∃ r : RIn, v = .slice r.a r.n r.c ∧ r.In w := by
  obtain ⟨f0, f1, f2, f3, hu, o0, o1, o2, o3, t0, t1, t2, t3⟩ := fieldsOf68
  rcases open_slice Try.underlying30 h with ⟨h0, _⟩ | ⟨ad, len, cap, m, n, D, Pl, h0, _, hl, hm, hmm, _, hx⟩
  · simp at h0
    subst h0
    exact ⟨⟨none, 0, 0, 0, 0, fun _ => 0, fun _ => 0, fun _ => 0, fun _ => ⟨none, 0, 0, 0, 0, fun _ => 0⟩⟩, rfl, fun h => by simp at h, fun _ => ⟨rfl, rfl⟩, fun j hj => by simp at hj⟩
  · simp at h0
    subst h0
    have hlm : len ≤ m := by rw [hmm]; split <;> omega
    have each : ∀ j, j < len → ∃ q : Int × Int × Int × Option Addr × Nat × Nat × Nat × Nat × (Nat → Nat), w.cell? (ad.add (j * 4)) = some (.int .i64 q.1) ∧ w.cell? (ad.add (j * 4 + 1)) = some (.int .i64 q.2.1) ∧ w.cell? (ad.add (j * 4 + 2)) = some (.int .i64 q.2.2.1) ∧
        w.cell? (ad.add (j * 4 + 3)) = some (.slice q.2.2.2.1 q.2.2.2.2.1 q.2.2.2.2.2.1) ∧ FIn.In ⟨q.2.2.2.1, q.2.2.2.2.1, q.2.2.2.2.2.1, q.2.2.2.2.2.2.1, q.2.2.2.2.2.2.2.1, q.2.2.2.2.2.2.2.2⟩ w := by
      intro j hj
      obtain ⟨cs', h1, h2⟩ := hx j (by omega)
      rw [Try.cells68] at h1
      obtain ⟨_, hlen, hcell⟩ := World.cells?_some h1
      obtain ⟨xs, k, hk, hxy, _, hxl, hf⟩ := DataW.trod_struct hu h2
      obtain ⟨v0, v1, v2, v3, rfl⟩ := list4 cs' hlen
      obtain ⟨y0, y1, y2, y3, rfl⟩ := list4 xs hxl
      have g0 := hf 0 f0 rfl
      have g1 := hf 1 f1 rfl
      have g2 := hf 2 f2 rfl
      have g3 := hf 3 f3 rfl
      simp [o0, o1, o2, o3, t0, t1, t2, t3, Try.cells2, Try.cells3, Try.cells41] at g0 g1 g2 g3
      have e0 := hcell 0 (by omega)
      have e1 := hcell 1 (by omega)
      have e2 := hcell 2 (by omega)
      have e3 := hcell 3 (by omega)
      rw [add_add] at e0 e1 e2 e3
      obtain ⟨i0, q0, _, _⟩ := DataW.trod_int Try.underlying3 g0
      obtain ⟨i1, q1, _, _⟩ := DataW.trod_int Try.underlying2 g1
      obtain ⟨i2, q2, _, _⟩ := DataW.trod_int Try.underlying2 g2
      obtain ⟨ff, q3, hff⟩ := open_fin g3
      simp at q0 q1 q2
      subst q0 q1 q2 q3
      exact ⟨(i0, i1, i2, ff.a, ff.n, ff.c, ff.b, ff.o, ff.x), by simpa using e0, by simpa using e1, by simpa using e2, by simpa using e3, hff⟩
    obtain ⟨q, hq⟩ := choose_lt each
    by_cases h0 : len = 0
    · subst h0
      exact ⟨⟨some ad, 0, cap, 0, 0, fun _ => 0, fun _ => 0, fun _ => 0, fun _ => ⟨none, 0, 0, 0, 0, fun _ => 0⟩⟩, rfl, fun h => by simp at h, fun h => by simp at h, fun j hj => by simp at hj⟩
    · obtain ⟨b, o, spot⟩ := ad
      have hspot : spot = none := by simpa [Addr.add] using World.cell?_spot (hq 0 (by omega)).1
      subst hspot
      refine ⟨⟨some ⟨b, o, none⟩, len, cap, b, o, fun j => (q j).1, fun j => (q j).2.1, fun j => (q j).2.2.1, fun j => ⟨(q j).2.2.2.1, (q j).2.2.2.2.1, (q j).2.2.2.2.2.1, (q j).2.2.2.2.2.2.1, (q j).2.2.2.2.2.2.2.1, (q j).2.2.2.2.2.2.2.2⟩⟩, rfl, fun _ => rfl, fun h => by simp at h, fun j hj => ?_⟩
      obtain ⟨e0, e1, e2, e3, e4⟩ := hq j hj
      rw [add_plain] at e0 e1 e2 e3
      exact ⟨e0, e1, e2, e3, e4⟩
theorem fieldsOf32 : ∃ f0 f1 f2 f3 f4 f5 f6 f7 f8 f9 f10 f11 f12 : Field, Try.prog.underlying 32 = some (.struct #[f0, f1, f2, f3, f4, f5, f6, f7, f8, f9, f10, f11, f12]) ∧ f0.offset = 0 ∧ f1.offset = 1 ∧ f2.offset = 2 ∧ f3.offset = 3 ∧ f4.offset = 4 ∧ f5.offset = 5 ∧ f6.offset = 6 ∧ f7.offset = 7 ∧ f8.offset = 8 ∧ f9.offset = 9 ∧ f10.offset = 10 ∧ f11.offset = 11 ∧ f12.offset = 12 ∧ f0.type = 3 ∧ f1.type = 2 ∧ f2.type = 4 ∧ f3.type = 23 ∧ f4.type = 23 ∧ f5.type = 23 ∧ f6.type = 3 ∧ f7.type = 2 ∧ f8.type = 30 ∧ f9.type = 2 ∧ f10.type = 4 ∧ f11.type = 2 ∧ f12.type = 4 := ⟨_, _, _, _, _, _, _, _, _, _, _, _, _, Try.underlying32, rfl, rfl, rfl, rfl, rfl, rfl, rfl, rfl, rfl, rfl, rfl, rfl, rfl, rfl, rfl, rfl, rfl, rfl, rfl, rfl, rfl, rfl, rfl, rfl, rfl, rfl⟩

theorem list13 {α : Type} (l : List α) (h : l.length = 13) : ∃ a0 a1 a2 a3 a4 a5 a6 a7 a8 a9 a10 a11 a12, l = [a0, a1, a2, a3, a4, a5, a6, a7, a8, a9, a10, a11, a12] := by
  match l, h with
  | [a0, a1, a2, a3, a4, a5, a6, a7, a8, a9, a10, a11, a12], _ => exact ⟨a0, a1, a2, a3, a4, a5, a6, a7, a8, a9, a10, a11, a12, rfl⟩

/-- A STATE BY VALUE, OPENED -/
theorem open_state {r : Reach} {b0 : Nat} {v : Value} {d : DataW H} {p : List MemPlace} (hv : Value.okWide Try.prog w r b0 32 v) (h : DataW.Trod enc Try.prog w base spare held 32 v d p) :
    ∃ s : StIn, v = s.val ∧ s.In w ∧ s.C.n ≤ maxLen ∧ ∀ j, j < s.C.n → -9223372036854775808 ≤ s.C.T j ∧ s.C.T j ≤ 9223372036854775807 := by
  obtain ⟨f0, f1, f2, f3, f4, f5, f6, f7, f8, f9, f10, f11, f12, hu, o0, o1, o2, o3, o4, o5, o6, o7, o8, o9, o10, o11, o12, t0, t1, t2, t3, t4, t5, t6, t7, t8, t9, t10, t11, t12⟩ := fieldsOf32
  obtain ⟨cs, rfl, hsz⟩ := okWide_struct hu hv
  rw [Try.cells32] at hsz
  obtain ⟨l⟩ := cs
  obtain ⟨v0, v1, v2, v3, v4, v5, v6, v7, v8, v9, v10, v11, v12, rfl⟩ := list13 l hsz
  obtain ⟨fuel, hf⟩ := h
  obtain ⟨xs, k, hk, _, _, hxl, hg⟩ := DataW.trod_struct hu hf
  obtain ⟨y0, y1, y2, y3, y4, y5, y6, y7, y8, y9, y10, y11, y12, rfl⟩ := list13 xs hxl
  have g0 := hg 0 f0 rfl
  have g1 := hg 1 f1 rfl
  have g2 := hg 2 f2 rfl
  have g3 := hg 3 f3 rfl
  have g4 := hg 4 f4 rfl
  have g5 := hg 5 f5 rfl
  have g6 := hg 6 f6 rfl
  have g7 := hg 7 f7 rfl
  have g8 := hg 8 f8 rfl
  have g9 := hg 9 f9 rfl
  have g10 := hg 10 f10 rfl
  have g11 := hg 11 f11 rfl
  have g12 := hg 12 f12 rfl
  simp [Value.cells, o0, o1, o2, o3, o4, o5, o6, o7, o8, o9, o10, o11, o12, t0, t1, t2, t3, t4, t5, t6, t7, t8, t9, t10, t11, t12, Try.cells2, Try.cells3, Try.cells4, Try.cells23, Try.cells30] at g0 g1 g2 g3 g4 g5 g6 g7 g8 g9 g10 g11 g12
  obtain ⟨i0, q0, _, _⟩ := DataW.trod_int Try.underlying3 g0
  obtain ⟨i1, q1, _, _⟩ := DataW.trod_int Try.underlying2 g1
  obtain ⟨i2, q2, _⟩ := DataW.trod_bool Try.underlying4 g2
  obtain ⟨i3, q3, in3, m3, b3⟩ := open_pin g3
  obtain ⟨i4, q4, in4, m4, b4⟩ := open_pin g4
  obtain ⟨i5, q5, in5, m5, b5⟩ := open_pin g5
  obtain ⟨i6, q6, _, _⟩ := DataW.trod_int Try.underlying3 g6
  obtain ⟨i7, q7, _, _⟩ := DataW.trod_int Try.underlying2 g7
  obtain ⟨i8, q8, in8⟩ := open_rin g8
  obtain ⟨i9, q9, _, _⟩ := DataW.trod_int Try.underlying2 g9
  obtain ⟨i10, q10, _⟩ := DataW.trod_bool Try.underlying4 g10
  obtain ⟨i11, q11, _, _⟩ := DataW.trod_int Try.underlying2 g11
  obtain ⟨i12, q12, _⟩ := DataW.trod_bool Try.underlying4 g12
  simp at q0 q1 q2 q6 q7 q9 q10 q11 q12
  subst q0 q1 q2 q3 q4 q5 q6 q7 q8 q9 q10 q11 q12
  exact ⟨⟨i0, i1, i2, i3, i4, i5, i6, i7, i8, i9, i10, i11, i12⟩, rfl, ⟨in3, in4, in5, in8⟩, m5, b5⟩
end
end Go.Proofs.Qxb6605212a
