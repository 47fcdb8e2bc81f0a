/- A state is equal to itself, a record is equal to itself. -/
import Derived.Test.Qxb6605248aLeafD
import Derived.Laws.StructEq
set_option linter.unusedVariables false
namespace Go.Proofs.Qxb6605248a
open Go.RowKit Go.Maps

theorem guard44 : Try.prog.eqGuardType Try.prog.depth 44 = false := by kernel_rfl
theorem guard41 : Try.prog.eqGuardType Try.prog.depth 41 = false := by kernel_rfl
theorem held44 : Try.prog.stoodInHeld 44 = false := by kernel_rfl
theorem held41 : Try.prog.stoodInHeld 41 = false := by kernel_rfl
theorem fields44 : Try.prog.underlying 44 = some (.struct (Try.prog.fieldsOf 44)) := by kernel_rfl
theorem fields41 : Try.prog.underlying 41 = some (.struct (Try.prog.fieldsOf 41)) := by kernel_rfl
theorem ptr_same (d : Nat) (w : World) (p : Option Addr) : (Op.equalIn (d + 1) 35 (.pointer p) (.pointer p)).run Try.prog w = .ok true w := by
  cases p with
  | none => simp [Op.equalIn, run_underlying Try.underlying35]
  | some a =>
    obtain ⟨j, hj⟩ : ∃ j, Try.prog.info? 3 = some j := ⟨_, rfl⟩
    simp [Op.equalIn, run_underlying Try.underlying35, sizeOf, typeInfo, hj, run_sameAddr_same]

def Rec.val (q : Rec) : Value := .agg #[.string q.task, .pointer q.gate, .bool q.disp, .int .i64 q.att, .bool q.ver, .string q.ev, .int .i64 q.pid, .string q.boot, .int .u64 q.start, .int .i64 q.sess, .string q.reason]
set_option maxHeartbeats 1000000 in
theorem eqIn41 (d : Nat) (q : Rec) (w : World) : (Op.equalIn (d + 3) 41 q.val q.val).run Try.prog w = .ok true w := by
  unfold Rec.val
  rw [show d + 3 = (d + 2) + 1 from rfl, run_equalIn_agg w (d + 2) 41 _ _ fields41 held41]
  simp only [Program.fieldsOf, Try.underlying41]
  have hp := ptr_same (d + 1)
  go_simp
theorem eql41 (q : Rec) (w : World) : (binOp .eql 41 q.val q.val).run Try.prog w = .ok (.bool true) w := by
  unfold Rec.val
  rw [run_eql_struct, show (10000 : Nat) = 9997 + 3 from rfl]
  have := eqIn41 9997 q w
  unfold Rec.val at this
  rw [this]
  rfl
set_option maxHeartbeats 1000000 in
theorem eqIn44 (d : Nat) (s : St) (w : World) : (Op.equalIn (d + 4) 44 s.val s.val).run Try.prog w = .ok true w := by
  have h41 := eqIn41 d s.last
  unfold St.val
  rw [show d + 4 = (d + 3) + 1 from rfl, run_equalIn_agg w (d + 3) 44 _ _ fields44 held44]
  simp only [Program.fieldsOf, Try.underlying44]
  unfold Rec.val at h41
  have hp := ptr_same (d + 1)
  go_simp
theorem neq44 (s : St) (w : World) : (binOp .neq 44 s.val s.val).run Try.prog w = .ok (.bool false) w := by
  unfold St.val
  rw [run_neq_struct, show (10000 : Nat) = 9996 + 4 from rfl]
  have := eqIn44 9996 s w
  unfold St.val at this
  rw [this]
  rfl
end Go.Proofs.Qxb6605248a
