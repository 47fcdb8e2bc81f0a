import Derived.Test.Qxb6605212aLeaf
namespace Go.Proofs.Qxb6605212a
open Go.RowKit

set_option maxHeartbeats 400000 in
theorem fields22 (b : Nat) (r : RS) (w : World) (h : r.at w b) :
    Calls Try.prog 22 #[.pointer (some ⟨b, 0, none⟩)] w fun e w' => e = .returned (.tuple #[.int .i64 r.c, .int .i64 r.f, .int .i64 r.t, .bool r.ris, .bool r.rea]) ∧ ∃ n, w' = w.drewN n := by
  obtain ⟨c, f, t0, ris, rea⟩ := r
  unfold RS.at at h
  obtain ⟨h0, h1, h2, h3, h4, f0, f1, f2, f3, f4⟩ := h
  clear f0 f1 f2 f3 f4
  go_enter Try.func22, Try.ntmps22
  go_wp2
  go_quiet (fail)
  go_wp2
  exact bodyPost_ret (v := .tuple #[.int .i64 c, .int .i64 f, .int .i64 t0, .bool ris, .bool rea]) (by simp [results, Try.results22, go_sem]) rfl ⟨rfl, _, rfl⟩

set_option maxHeartbeats 400000 in
theorem make20 (w : World) :
    Calls Try.prog 20 #[.int .i64 0, .int .i64 0, .int .i64 0, .bool false, .bool false] w fun e w' => e = .returned (.agg #[.int .i64 0, .int .i64 0, .int .i64 0, .bool false, .bool false]) ∧ Below w.heap.size w w' := by
  go_enter Try.func20, Try.ntmps20
  go_wp2
  refine bodyPost_ret (v := .agg #[.int .i64 0, .int .i64 0, .int .i64 0, .bool false, .bool false]) (by simp [results, Try.results20, go_sem]) rfl ⟨rfl, ?_⟩
  repeat (first | (with_reducible refine Below.alloc ?_ (by simp) _) | (with_reducible refine Below.setCell ?_ (by simp) _) | (with_reducible exact Below.refl _ _))

set_option maxHeartbeats 400000 in
theorem bytes19 (a1 a2 a3 : Option Addr) (n1 n2 n3 c1 c2 c3 : Nat) (u d : Nat) (w : World) (h1 : n1 ≤ maxLen) (h2 : n2 ≤ maxLen) (h3 : n3 ≤ maxLen) :
    Calls Try.prog 19 #[.slice a1 n1 c1, .slice a2 n2 c2, .slice a3 n3 c3, .float .f64 u, .float .f64 d] w fun e w' => ∃ p, e = .returned (.bool p) ∧ w' = w := by
  unfold maxLen at h1 h2 h3
  go_enter Try.func19, Try.ntmps19
  go_wp2
  all_goals (go_ret; exact ⟨_, rfl, rfl⟩)
end Go.Proofs.Qxb6605212a
