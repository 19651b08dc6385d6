/-
  Proved: for every int8 code, every location and both export flags, FnStmtCaresAboutScopeCaseTable returns true and leaves its arguments as they were. No condition.
-/
import Derived.Test.YtjmpiljbiklgjaaRows
import Derived.WalkKit
import Derived.ProofKit
import Derived.OpenShut
import Derived.ShutString
import Derived.WalkLawsBesides
import Derived.Lib.Hide
namespace Go.Proofs.Ytjmpiljbiklgjaa.fnStmtCaresAboutScopeCaseTable
open Go.ChangeShapes Go.WideShapes Go.ChangeAt Go.RowKit
open Go.ChangeMaps (open_string shut_string)
set_option linter.unusedVariables false

theorem own : ownKnob Try.prog.godebug = none := by kernel_rfl

@[go_sem] theorem as25_34_yes (v : Value) (w : World) : (Instr.typeAssert (.iface 34 v) 25 34 true).run Try.prog w = .ok (.tuple #[v, .bool true]) w := by kernel_rfl
@[go_sem] theorem as25_34_nil (w : World) : (Instr.typeAssert .nilIface 25 34 true).run Try.prog w = .ok (.tuple #[.pointer none, .bool false]) w := by kernel_rfl
theorem as25_34_zero (w : World) : (do pure (Value.tuple #[← zeroValue 34, .bool false]) : Sem Value).run Try.prog w = .ok (.tuple #[.pointer none, .bool false]) w := by kernel_rfl
@[go_sem] theorem as25_34_no (u : TypeId) (v : Value) (w : World) (h : u ≠ 34) : (Instr.typeAssert (.iface u v) 25 34 true).run Try.prog w = .ok (.tuple #[.pointer none, .bool false]) w := by
  have e : (Instr.typeAssert (.iface u v) 25 34 true).run Try.prog w = (if u = 34 then (pure (Value.tuple #[v, .bool true]) : Sem Value) else (do pure (Value.tuple #[← zeroValue 34, .bool false]))).run Try.prog w := by kernel_rfl
  rw [e, if_neg h]
  exact as25_34_zero w
@[go_sem] theorem as25_38_yes (v : Value) (w : World) : (Instr.typeAssert (.iface 38 v) 25 38 true).run Try.prog w = .ok (.tuple #[v, .bool true]) w := by kernel_rfl
@[go_sem] theorem as25_38_nil (w : World) : (Instr.typeAssert .nilIface 25 38 true).run Try.prog w = .ok (.tuple #[.pointer none, .bool false]) w := by kernel_rfl
theorem as25_38_zero (w : World) : (do pure (Value.tuple #[← zeroValue 38, .bool false]) : Sem Value).run Try.prog w = .ok (.tuple #[.pointer none, .bool false]) w := by kernel_rfl
@[go_sem] theorem as25_38_no (u : TypeId) (v : Value) (w : World) (h : u ≠ 38) : (Instr.typeAssert (.iface u v) 25 38 true).run Try.prog w = .ok (.tuple #[.pointer none, .bool false]) w := by
  have e : (Instr.typeAssert (.iface u v) 25 38 true).run Try.prog w = (if u = 38 then (pure (Value.tuple #[v, .bool true]) : Sem Value) else (do pure (Value.tuple #[← zeroValue 38, .bool false]))).run Try.prog w := by kernel_rfl
  rw [e, if_neg h]
  exact as25_38_zero w
@[go_sem] theorem as25_41_yes (v : Value) (w : World) : (Instr.typeAssert (.iface 41 v) 25 41 true).run Try.prog w = .ok (.tuple #[v, .bool true]) w := by kernel_rfl
@[go_sem] theorem as25_41_nil (w : World) : (Instr.typeAssert .nilIface 25 41 true).run Try.prog w = .ok (.tuple #[.pointer none, .bool false]) w := by kernel_rfl
theorem as25_41_zero (w : World) : (do pure (Value.tuple #[← zeroValue 41, .bool false]) : Sem Value).run Try.prog w = .ok (.tuple #[.pointer none, .bool false]) w := by kernel_rfl
@[go_sem] theorem as25_41_no (u : TypeId) (v : Value) (w : World) (h : u ≠ 41) : (Instr.typeAssert (.iface u v) 25 41 true).run Try.prog w = .ok (.tuple #[.pointer none, .bool false]) w := by
  have e : (Instr.typeAssert (.iface u v) 25 41 true).run Try.prog w = (if u = 41 then (pure (Value.tuple #[v, .bool true]) : Sem Value) else (do pure (Value.tuple #[← zeroValue 41, .bool false]))).run Try.prog w := by kernel_rfl
  rw [e, if_neg h]
  exact as25_41_zero w
@[go_sem] theorem as25_43_yes (v : Value) (w : World) : (Instr.typeAssert (.iface 43 v) 25 43 true).run Try.prog w = .ok (.tuple #[v, .bool true]) w := by kernel_rfl
@[go_sem] theorem as25_43_nil (w : World) : (Instr.typeAssert .nilIface 25 43 true).run Try.prog w = .ok (.tuple #[.pointer none, .bool false]) w := by kernel_rfl
theorem as25_43_zero (w : World) : (do pure (Value.tuple #[← zeroValue 43, .bool false]) : Sem Value).run Try.prog w = .ok (.tuple #[.pointer none, .bool false]) w := by kernel_rfl
@[go_sem] theorem as25_43_no (u : TypeId) (v : Value) (w : World) (h : u ≠ 43) : (Instr.typeAssert (.iface u v) 25 43 true).run Try.prog w = .ok (.tuple #[.pointer none, .bool false]) w := by
  have e : (Instr.typeAssert (.iface u v) 25 43 true).run Try.prog w = (if u = 43 then (pure (Value.tuple #[v, .bool true]) : Sem Value) else (do pure (Value.tuple #[← zeroValue 43, .bool false]))).run Try.prog w := by kernel_rfl
  rw [e, if_neg h]
  exact as25_43_zero w
@[go_sem] theorem as25_50_yes (v : Value) (w : World) : (Instr.typeAssert (.iface 50 v) 25 50 true).run Try.prog w = .ok (.tuple #[v, .bool true]) w := by kernel_rfl
@[go_sem] theorem as25_50_nil (w : World) : (Instr.typeAssert .nilIface 25 50 true).run Try.prog w = .ok (.tuple #[.pointer none, .bool false]) w := by kernel_rfl
theorem as25_50_zero (w : World) : (do pure (Value.tuple #[← zeroValue 50, .bool false]) : Sem Value).run Try.prog w = .ok (.tuple #[.pointer none, .bool false]) w := by kernel_rfl
@[go_sem] theorem as25_50_no (u : TypeId) (v : Value) (w : World) (h : u ≠ 50) : (Instr.typeAssert (.iface u v) 25 50 true).run Try.prog w = .ok (.tuple #[.pointer none, .bool false]) w := by
  have e : (Instr.typeAssert (.iface u v) 25 50 true).run Try.prog w = (if u = 50 then (pure (Value.tuple #[v, .bool true]) : Sem Value) else (do pure (Value.tuple #[← zeroValue 50, .bool false]))).run Try.prog w := by kernel_rfl
  rw [e, if_neg h]
  exact as25_50_zero w
@[go_sem] theorem as25_53_yes (v : Value) (w : World) : (Instr.typeAssert (.iface 53 v) 25 53 true).run Try.prog w = .ok (.tuple #[v, .bool true]) w := by kernel_rfl
@[go_sem] theorem as25_53_nil (w : World) : (Instr.typeAssert .nilIface 25 53 true).run Try.prog w = .ok (.tuple #[.pointer none, .bool false]) w := by kernel_rfl
theorem as25_53_zero (w : World) : (do pure (Value.tuple #[← zeroValue 53, .bool false]) : Sem Value).run Try.prog w = .ok (.tuple #[.pointer none, .bool false]) w := by kernel_rfl
@[go_sem] theorem as25_53_no (u : TypeId) (v : Value) (w : World) (h : u ≠ 53) : (Instr.typeAssert (.iface u v) 25 53 true).run Try.prog w = .ok (.tuple #[.pointer none, .bool false]) w := by
  have e : (Instr.typeAssert (.iface u v) 25 53 true).run Try.prog w = (if u = 53 then (pure (Value.tuple #[v, .bool true]) : Sem Value) else (do pure (Value.tuple #[← zeroValue 53, .bool false]))).run Try.prog w := by kernel_rfl
  rw [e, if_neg h]
  exact as25_53_zero w
@[go_sem] theorem as25_56_yes (v : Value) (w : World) : (Instr.typeAssert (.iface 56 v) 25 56 true).run Try.prog w = .ok (.tuple #[v, .bool true]) w := by kernel_rfl
@[go_sem] theorem as25_56_nil (w : World) : (Instr.typeAssert .nilIface 25 56 true).run Try.prog w = .ok (.tuple #[.pointer none, .bool false]) w := by kernel_rfl
theorem as25_56_zero (w : World) : (do pure (Value.tuple #[← zeroValue 56, .bool false]) : Sem Value).run Try.prog w = .ok (.tuple #[.pointer none, .bool false]) w := by kernel_rfl
@[go_sem] theorem as25_56_no (u : TypeId) (v : Value) (w : World) (h : u ≠ 56) : (Instr.typeAssert (.iface u v) 25 56 true).run Try.prog w = .ok (.tuple #[.pointer none, .bool false]) w := by
  have e : (Instr.typeAssert (.iface u v) 25 56 true).run Try.prog w = (if u = 56 then (pure (Value.tuple #[v, .bool true]) : Sem Value) else (do pure (Value.tuple #[← zeroValue 56, .bool false]))).run Try.prog w := by kernel_rfl
  rw [e, if_neg h]
  exact as25_56_zero w
@[go_sem] theorem as25_59_yes (v : Value) (w : World) : (Instr.typeAssert (.iface 59 v) 25 59 true).run Try.prog w = .ok (.tuple #[v, .bool true]) w := by kernel_rfl
@[go_sem] theorem as25_59_nil (w : World) : (Instr.typeAssert .nilIface 25 59 true).run Try.prog w = .ok (.tuple #[.pointer none, .bool false]) w := by kernel_rfl
theorem as25_59_zero (w : World) : (do pure (Value.tuple #[← zeroValue 59, .bool false]) : Sem Value).run Try.prog w = .ok (.tuple #[.pointer none, .bool false]) w := by kernel_rfl
@[go_sem] theorem as25_59_no (u : TypeId) (v : Value) (w : World) (h : u ≠ 59) : (Instr.typeAssert (.iface u v) 25 59 true).run Try.prog w = .ok (.tuple #[.pointer none, .bool false]) w := by
  have e : (Instr.typeAssert (.iface u v) 25 59 true).run Try.prog w = (if u = 59 then (pure (Value.tuple #[v, .bool true]) : Sem Value) else (do pure (Value.tuple #[← zeroValue 59, .bool false]))).run Try.prog w := by kernel_rfl
  rw [e, if_neg h]
  exact as25_59_zero w
@[go_sem] theorem as25_64_yes (v : Value) (w : World) : (Instr.typeAssert (.iface 64 v) 25 64 true).run Try.prog w = .ok (.tuple #[v, .bool true]) w := by kernel_rfl
@[go_sem] theorem as25_64_nil (w : World) : (Instr.typeAssert .nilIface 25 64 true).run Try.prog w = .ok (.tuple #[.pointer none, .bool false]) w := by kernel_rfl
theorem as25_64_zero (w : World) : (do pure (Value.tuple #[← zeroValue 64, .bool false]) : Sem Value).run Try.prog w = .ok (.tuple #[.pointer none, .bool false]) w := by kernel_rfl
@[go_sem] theorem as25_64_no (u : TypeId) (v : Value) (w : World) (h : u ≠ 64) : (Instr.typeAssert (.iface u v) 25 64 true).run Try.prog w = .ok (.tuple #[.pointer none, .bool false]) w := by
  have e : (Instr.typeAssert (.iface u v) 25 64 true).run Try.prog w = (if u = 64 then (pure (Value.tuple #[v, .bool true]) : Sem Value) else (do pure (Value.tuple #[← zeroValue 64, .bool false]))).run Try.prog w := by kernel_rfl
  rw [e, if_neg h]
  exact as25_64_zero w
@[go_sem] theorem as25_67_yes (v : Value) (w : World) : (Instr.typeAssert (.iface 67 v) 25 67 true).run Try.prog w = .ok (.tuple #[v, .bool true]) w := by kernel_rfl
@[go_sem] theorem as25_67_nil (w : World) : (Instr.typeAssert .nilIface 25 67 true).run Try.prog w = .ok (.tuple #[.pointer none, .bool false]) w := by kernel_rfl
theorem as25_67_zero (w : World) : (do pure (Value.tuple #[← zeroValue 67, .bool false]) : Sem Value).run Try.prog w = .ok (.tuple #[.pointer none, .bool false]) w := by kernel_rfl
@[go_sem] theorem as25_67_no (u : TypeId) (v : Value) (w : World) (h : u ≠ 67) : (Instr.typeAssert (.iface u v) 25 67 true).run Try.prog w = .ok (.tuple #[.pointer none, .bool false]) w := by
  have e : (Instr.typeAssert (.iface u v) 25 67 true).run Try.prog w = (if u = 67 then (pure (Value.tuple #[v, .bool true]) : Sem Value) else (do pure (Value.tuple #[← zeroValue 67, .bool false]))).run Try.prog w := by kernel_rfl
  rw [e, if_neg h]
  exact as25_67_zero w
@[go_sem] theorem as25_70_yes (v : Value) (w : World) : (Instr.typeAssert (.iface 70 v) 25 70 true).run Try.prog w = .ok (.tuple #[v, .bool true]) w := by kernel_rfl
@[go_sem] theorem as25_70_nil (w : World) : (Instr.typeAssert .nilIface 25 70 true).run Try.prog w = .ok (.tuple #[.pointer none, .bool false]) w := by kernel_rfl
theorem as25_70_zero (w : World) : (do pure (Value.tuple #[← zeroValue 70, .bool false]) : Sem Value).run Try.prog w = .ok (.tuple #[.pointer none, .bool false]) w := by kernel_rfl
@[go_sem] theorem as25_70_no (u : TypeId) (v : Value) (w : World) (h : u ≠ 70) : (Instr.typeAssert (.iface u v) 25 70 true).run Try.prog w = .ok (.tuple #[.pointer none, .bool false]) w := by
  have e : (Instr.typeAssert (.iface u v) 25 70 true).run Try.prog w = (if u = 70 then (pure (Value.tuple #[v, .bool true]) : Sem Value) else (do pure (Value.tuple #[← zeroValue 70, .bool false]))).run Try.prog w := by kernel_rfl
  rw [e, if_neg h]
  exact as25_70_zero w
@[go_sem] theorem as25_73_yes (v : Value) (w : World) : (Instr.typeAssert (.iface 73 v) 25 73 true).run Try.prog w = .ok (.tuple #[v, .bool true]) w := by kernel_rfl
@[go_sem] theorem as25_73_nil (w : World) : (Instr.typeAssert .nilIface 25 73 true).run Try.prog w = .ok (.tuple #[.pointer none, .bool false]) w := by kernel_rfl
theorem as25_73_zero (w : World) : (do pure (Value.tuple #[← zeroValue 73, .bool false]) : Sem Value).run Try.prog w = .ok (.tuple #[.pointer none, .bool false]) w := by kernel_rfl
@[go_sem] theorem as25_73_no (u : TypeId) (v : Value) (w : World) (h : u ≠ 73) : (Instr.typeAssert (.iface u v) 25 73 true).run Try.prog w = .ok (.tuple #[.pointer none, .bool false]) w := by
  have e : (Instr.typeAssert (.iface u v) 25 73 true).run Try.prog w = (if u = 73 then (pure (Value.tuple #[v, .bool true]) : Sem Value) else (do pure (Value.tuple #[← zeroValue 73, .bool false]))).run Try.prog w := by kernel_rfl
  rw [e, if_neg h]
  exact as25_73_zero w
@[go_sem] theorem as25_78_yes (v : Value) (w : World) : (Instr.typeAssert (.iface 78 v) 25 78 true).run Try.prog w = .ok (.tuple #[v, .bool true]) w := by kernel_rfl
@[go_sem] theorem as25_78_nil (w : World) : (Instr.typeAssert .nilIface 25 78 true).run Try.prog w = .ok (.tuple #[.pointer none, .bool false]) w := by kernel_rfl
theorem as25_78_zero (w : World) : (do pure (Value.tuple #[← zeroValue 78, .bool false]) : Sem Value).run Try.prog w = .ok (.tuple #[.pointer none, .bool false]) w := by kernel_rfl
@[go_sem] theorem as25_78_no (u : TypeId) (v : Value) (w : World) (h : u ≠ 78) : (Instr.typeAssert (.iface u v) 25 78 true).run Try.prog w = .ok (.tuple #[.pointer none, .bool false]) w := by
  have e : (Instr.typeAssert (.iface u v) 25 78 true).run Try.prog w = (if u = 78 then (pure (Value.tuple #[v, .bool true]) : Sem Value) else (do pure (Value.tuple #[← zeroValue 78, .bool false]))).run Try.prog w := by kernel_rfl
  rw [e, if_neg h]
  exact as25_78_zero w
@[go_sem] theorem as25_82_yes (v : Value) (w : World) : (Instr.typeAssert (.iface 82 v) 25 82 true).run Try.prog w = .ok (.tuple #[v, .bool true]) w := by kernel_rfl
@[go_sem] theorem as25_82_nil (w : World) : (Instr.typeAssert .nilIface 25 82 true).run Try.prog w = .ok (.tuple #[.pointer none, .bool false]) w := by kernel_rfl
theorem as25_82_zero (w : World) : (do pure (Value.tuple #[← zeroValue 82, .bool false]) : Sem Value).run Try.prog w = .ok (.tuple #[.pointer none, .bool false]) w := by kernel_rfl
@[go_sem] theorem as25_82_no (u : TypeId) (v : Value) (w : World) (h : u ≠ 82) : (Instr.typeAssert (.iface u v) 25 82 true).run Try.prog w = .ok (.tuple #[.pointer none, .bool false]) w := by
  have e : (Instr.typeAssert (.iface u v) 25 82 true).run Try.prog w = (if u = 82 then (pure (Value.tuple #[v, .bool true]) : Sem Value) else (do pure (Value.tuple #[← zeroValue 82, .bool false]))).run Try.prog w := by kernel_rfl
  rw [e, if_neg h]
  exact as25_82_zero w
@[go_sem] theorem as25_85_yes (v : Value) (w : World) : (Instr.typeAssert (.iface 85 v) 25 85 true).run Try.prog w = .ok (.tuple #[v, .bool true]) w := by kernel_rfl
@[go_sem] theorem as25_85_nil (w : World) : (Instr.typeAssert .nilIface 25 85 true).run Try.prog w = .ok (.tuple #[.pointer none, .bool false]) w := by kernel_rfl
theorem as25_85_zero (w : World) : (do pure (Value.tuple #[← zeroValue 85, .bool false]) : Sem Value).run Try.prog w = .ok (.tuple #[.pointer none, .bool false]) w := by kernel_rfl
@[go_sem] theorem as25_85_no (u : TypeId) (v : Value) (w : World) (h : u ≠ 85) : (Instr.typeAssert (.iface u v) 25 85 true).run Try.prog w = .ok (.tuple #[.pointer none, .bool false]) w := by
  have e : (Instr.typeAssert (.iface u v) 25 85 true).run Try.prog w = (if u = 85 then (pure (Value.tuple #[v, .bool true]) : Sem Value) else (do pure (Value.tuple #[← zeroValue 85, .bool false]))).run Try.prog w := by kernel_rfl
  rw [e, if_neg h]
  exact as25_85_zero w
@[go_sem] theorem as25_88_yes (v : Value) (w : World) : (Instr.typeAssert (.iface 88 v) 25 88 true).run Try.prog w = .ok (.tuple #[v, .bool true]) w := by kernel_rfl
@[go_sem] theorem as25_88_nil (w : World) : (Instr.typeAssert .nilIface 25 88 true).run Try.prog w = .ok (.tuple #[.pointer none, .bool false]) w := by kernel_rfl
theorem as25_88_zero (w : World) : (do pure (Value.tuple #[← zeroValue 88, .bool false]) : Sem Value).run Try.prog w = .ok (.tuple #[.pointer none, .bool false]) w := by kernel_rfl
@[go_sem] theorem as25_88_no (u : TypeId) (v : Value) (w : World) (h : u ≠ 88) : (Instr.typeAssert (.iface u v) 25 88 true).run Try.prog w = .ok (.tuple #[.pointer none, .bool false]) w := by
  have e : (Instr.typeAssert (.iface u v) 25 88 true).run Try.prog w = (if u = 88 then (pure (Value.tuple #[v, .bool true]) : Sem Value) else (do pure (Value.tuple #[← zeroValue 88, .bool false]))).run Try.prog w := by kernel_rfl
  rw [e, if_neg h]
  exact as25_88_zero w
@[go_sem] theorem as25_92_yes (v : Value) (w : World) : (Instr.typeAssert (.iface 92 v) 25 92 true).run Try.prog w = .ok (.tuple #[v, .bool true]) w := by kernel_rfl
@[go_sem] theorem as25_92_nil (w : World) : (Instr.typeAssert .nilIface 25 92 true).run Try.prog w = .ok (.tuple #[.pointer none, .bool false]) w := by kernel_rfl
theorem as25_92_zero (w : World) : (do pure (Value.tuple #[← zeroValue 92, .bool false]) : Sem Value).run Try.prog w = .ok (.tuple #[.pointer none, .bool false]) w := by kernel_rfl
@[go_sem] theorem as25_92_no (u : TypeId) (v : Value) (w : World) (h : u ≠ 92) : (Instr.typeAssert (.iface u v) 25 92 true).run Try.prog w = .ok (.tuple #[.pointer none, .bool false]) w := by
  have e : (Instr.typeAssert (.iface u v) 25 92 true).run Try.prog w = (if u = 92 then (pure (Value.tuple #[v, .bool true]) : Sem Value) else (do pure (Value.tuple #[← zeroValue 92, .bool false]))).run Try.prog w := by kernel_rfl
  rw [e, if_neg h]
  exact as25_92_zero w
@[go_sem] theorem as25_94_yes (v : Value) (w : World) : (Instr.typeAssert (.iface 94 v) 25 94 true).run Try.prog w = .ok (.tuple #[v, .bool true]) w := by kernel_rfl
@[go_sem] theorem as25_94_nil (w : World) : (Instr.typeAssert .nilIface 25 94 true).run Try.prog w = .ok (.tuple #[.pointer none, .bool false]) w := by kernel_rfl
theorem as25_94_zero (w : World) : (do pure (Value.tuple #[← zeroValue 94, .bool false]) : Sem Value).run Try.prog w = .ok (.tuple #[.pointer none, .bool false]) w := by kernel_rfl
@[go_sem] theorem as25_94_no (u : TypeId) (v : Value) (w : World) (h : u ≠ 94) : (Instr.typeAssert (.iface u v) 25 94 true).run Try.prog w = .ok (.tuple #[.pointer none, .bool false]) w := by
  have e : (Instr.typeAssert (.iface u v) 25 94 true).run Try.prog w = (if u = 94 then (pure (Value.tuple #[v, .bool true]) : Sem Value) else (do pure (Value.tuple #[← zeroValue 94, .bool false]))).run Try.prog w := by kernel_rfl
  rw [e, if_neg h]
  exact as25_94_zero w
@[go_sem] theorem as25_98_yes (v : Value) (w : World) : (Instr.typeAssert (.iface 98 v) 25 98 true).run Try.prog w = .ok (.tuple #[v, .bool true]) w := by kernel_rfl
@[go_sem] theorem as25_98_nil (w : World) : (Instr.typeAssert .nilIface 25 98 true).run Try.prog w = .ok (.tuple #[.pointer none, .bool false]) w := by kernel_rfl
theorem as25_98_zero (w : World) : (do pure (Value.tuple #[← zeroValue 98, .bool false]) : Sem Value).run Try.prog w = .ok (.tuple #[.pointer none, .bool false]) w := by kernel_rfl
@[go_sem] theorem as25_98_no (u : TypeId) (v : Value) (w : World) (h : u ≠ 98) : (Instr.typeAssert (.iface u v) 25 98 true).run Try.prog w = .ok (.tuple #[.pointer none, .bool false]) w := by
  have e : (Instr.typeAssert (.iface u v) 25 98 true).run Try.prog w = (if u = 98 then (pure (Value.tuple #[v, .bool true]) : Sem Value) else (do pure (Value.tuple #[← zeroValue 98, .bool false]))).run Try.prog w := by kernel_rfl
  rw [e, if_neg h]
  exact as25_98_zero w
@[go_sem] theorem as25_106_yes (v : Value) (w : World) : (Instr.typeAssert (.iface 106 v) 25 106 true).run Try.prog w = .ok (.tuple #[v, .bool true]) w := by kernel_rfl
@[go_sem] theorem as25_106_nil (w : World) : (Instr.typeAssert .nilIface 25 106 true).run Try.prog w = .ok (.tuple #[.pointer none, .bool false]) w := by kernel_rfl
theorem as25_106_zero (w : World) : (do pure (Value.tuple #[← zeroValue 106, .bool false]) : Sem Value).run Try.prog w = .ok (.tuple #[.pointer none, .bool false]) w := by kernel_rfl
@[go_sem] theorem as25_106_no (u : TypeId) (v : Value) (w : World) (h : u ≠ 106) : (Instr.typeAssert (.iface u v) 25 106 true).run Try.prog w = .ok (.tuple #[.pointer none, .bool false]) w := by
  have e : (Instr.typeAssert (.iface u v) 25 106 true).run Try.prog w = (if u = 106 then (pure (Value.tuple #[v, .bool true]) : Sem Value) else (do pure (Value.tuple #[← zeroValue 106, .bool false]))).run Try.prog w := by kernel_rfl
  rw [e, if_neg h]
  exact as25_106_zero w

def norm (c : Int) : Int := if c.tmod 26 < 0 then c.tmod 26 + 26 else c.tmod 26

theorem norm_bd (c : Int) : 0 ≤ norm c ∧ norm c < 26 := by
  have h1 := Int.lt_tmod_of_pos c (b := 26) (by omega)
  have h2 := Int.tmod_lt_of_pos c (b := 26) (by omega)
  unfold norm
  split <;> omega

theorem norm_any (c k : Int) (h : -128 ≤ c ∧ c ≤ 127) (hk : norm c = k) (w : World) :
    Calls Try.prog 4 #[.int .i8 c] w fun e w' => e = .returned (.int .i64 k) ∧ w = w' := by
  have H := Lib.hid hk
  clear hk
  go_enter Try.func4, Try.ntmps4
  go_wp2
  all_goals go_ret
  · have h1 : c.tmod 26 < 0 := by assumption
    have h2 : -26 < c.tmod 26 := by have := Int.lt_tmod_of_pos c (b := 26) (by omega); omega
    refine ⟨?_, rfl⟩
    rw [← H.out]
    show Ending.returned (.int .i64 (wrap64 (c.tmod 26 + 26))) = _
    rw [IntWalk.wrap64_in _ ⟨by omega, by omega⟩, norm, if_pos h1]
  · have h1 : ¬ c.tmod 26 < 0 := by omega
    refine ⟨?_, rfl⟩
    rw [← H.out]
    show Ending.returned (.int .i64 (c.tmod 26)) = _
    rw [norm, if_neg h1]

set_option maxRecDepth 100000 in
set_option maxHeartbeats 400000 in
theorem case0 (c : Int) (l : Int) (x : Bool) (h : -128 ≤ c ∧ c ≤ 127) (hk : norm c = 0) (w : World) :
    Calls Try.prog 3 #[.int .i8 c, .int .i32 l, .bool x] w fun e w' => e = .returned (.bool true) ∧ Grown w w' := by
  have N := norm_any c 0 h hk
  have HN := Lib.hid N
  clear N hk
  go_enter Try.func3, Try.ntmps3
  go_wp2_with (first | (go_at_call 4; refine (HN.out _).mono ?_; rintro e w' ⟨rfl, rfl⟩) | go_in | (refine bodyPost_ret (by simp [results, Try.results5, go_sem]; rfl) rfl ?_; simp only []; go_at_K))
  go_ret
  exact ⟨rfl, by repeat (first | exact Grown.refl _ | apply Grown.drew | apply Grown.alloc)⟩
set_option maxRecDepth 100000 in
set_option maxHeartbeats 400000 in
theorem case1 (c : Int) (l : Int) (x : Bool) (h : -128 ≤ c ∧ c ≤ 127) (hk : norm c = 1) (w : World) :
    Calls Try.prog 3 #[.int .i8 c, .int .i32 l, .bool x] w fun e w' => e = .returned (.bool true) ∧ Grown w w' := by
  have N := norm_any c 1 h hk
  have HN := Lib.hid N
  clear N hk
  go_enter Try.func3, Try.ntmps3
  go_wp2_with (first | (go_at_call 4; refine (HN.out _).mono ?_; rintro e w' ⟨rfl, rfl⟩) | go_in | (refine bodyPost_ret (by simp [results, Try.results5, go_sem]; rfl) rfl ?_; simp only []; go_at_K))
  go_ret
  exact ⟨rfl, by repeat (first | exact Grown.refl _ | apply Grown.drew | apply Grown.alloc)⟩
set_option maxRecDepth 100000 in
set_option maxHeartbeats 400000 in
theorem case2 (c : Int) (l : Int) (x : Bool) (h : -128 ≤ c ∧ c ≤ 127) (hk : norm c = 2) (w : World) :
    Calls Try.prog 3 #[.int .i8 c, .int .i32 l, .bool x] w fun e w' => e = .returned (.bool true) ∧ Grown w w' := by
  have N := norm_any c 2 h hk
  have HN := Lib.hid N
  clear N hk
  go_enter Try.func3, Try.ntmps3
  go_wp2_with (first | (go_at_call 4; refine (HN.out _).mono ?_; rintro e w' ⟨rfl, rfl⟩) | go_in | (refine bodyPost_ret (by simp [results, Try.results5, go_sem]; rfl) rfl ?_; simp only []; go_at_K))
  go_ret
  exact ⟨rfl, by repeat (first | exact Grown.refl _ | apply Grown.drew | apply Grown.alloc)⟩
set_option maxRecDepth 100000 in
set_option maxHeartbeats 400000 in
theorem case3 (c : Int) (l : Int) (x : Bool) (h : -128 ≤ c ∧ c ≤ 127) (hk : norm c = 3) (w : World) :
    Calls Try.prog 3 #[.int .i8 c, .int .i32 l, .bool x] w fun e w' => e = .returned (.bool true) ∧ Grown w w' := by
  have N := norm_any c 3 h hk
  have HN := Lib.hid N
  clear N hk
  go_enter Try.func3, Try.ntmps3
  go_wp2_with (first | (go_at_call 4; refine (HN.out _).mono ?_; rintro e w' ⟨rfl, rfl⟩) | go_in | (refine bodyPost_ret (by simp [results, Try.results5, go_sem]; rfl) rfl ?_; simp only []; go_at_K))
  go_ret
  exact ⟨rfl, by repeat (first | exact Grown.refl _ | apply Grown.drew | apply Grown.alloc)⟩
set_option maxRecDepth 100000 in
set_option maxHeartbeats 400000 in
theorem case4 (c : Int) (l : Int) (x : Bool) (h : -128 ≤ c ∧ c ≤ 127) (hk : norm c = 4) (w : World) :
    Calls Try.prog 3 #[.int .i8 c, .int .i32 l, .bool x] w fun e w' => e = .returned (.bool true) ∧ Grown w w' := by
  have N := norm_any c 4 h hk
  have HN := Lib.hid N
  clear N hk
  go_enter Try.func3, Try.ntmps3
  go_wp2_with (first | (go_at_call 4; refine (HN.out _).mono ?_; rintro e w' ⟨rfl, rfl⟩) | go_in | (refine bodyPost_ret (by simp [results, Try.results5, go_sem]; rfl) rfl ?_; simp only []; go_at_K))
  go_ret
  exact ⟨rfl, by repeat (first | exact Grown.refl _ | apply Grown.drew | apply Grown.alloc)⟩
set_option maxRecDepth 100000 in
set_option maxHeartbeats 400000 in
theorem case5 (c : Int) (l : Int) (x : Bool) (h : -128 ≤ c ∧ c ≤ 127) (hk : norm c = 5) (w : World) :
    Calls Try.prog 3 #[.int .i8 c, .int .i32 l, .bool x] w fun e w' => e = .returned (.bool true) ∧ Grown w w' := by
  have N := norm_any c 5 h hk
  have HN := Lib.hid N
  clear N hk
  go_enter Try.func3, Try.ntmps3
  go_wp2_with (first | (go_at_call 4; refine (HN.out _).mono ?_; rintro e w' ⟨rfl, rfl⟩) | go_in | (refine bodyPost_ret (by simp [results, Try.results5, go_sem]; rfl) rfl ?_; simp only []; go_at_K))
  go_ret
  exact ⟨rfl, by repeat (first | exact Grown.refl _ | apply Grown.drew | apply Grown.alloc)⟩
set_option maxRecDepth 100000 in
set_option maxHeartbeats 400000 in
theorem case6 (c : Int) (l : Int) (x : Bool) (h : -128 ≤ c ∧ c ≤ 127) (hk : norm c = 6) (w : World) :
    Calls Try.prog 3 #[.int .i8 c, .int .i32 l, .bool x] w fun e w' => e = .returned (.bool true) ∧ Grown w w' := by
  have N := norm_any c 6 h hk
  have HN := Lib.hid N
  clear N hk
  go_enter Try.func3, Try.ntmps3
  go_wp2_with (first | (go_at_call 4; refine (HN.out _).mono ?_; rintro e w' ⟨rfl, rfl⟩) | go_in | (refine bodyPost_ret (by simp [results, Try.results5, go_sem]; rfl) rfl ?_; simp only []; go_at_K))
  go_ret
  exact ⟨rfl, by repeat (first | exact Grown.refl _ | apply Grown.drew | apply Grown.alloc)⟩
set_option maxRecDepth 100000 in
set_option maxHeartbeats 400000 in
theorem case7 (c : Int) (l : Int) (x : Bool) (h : -128 ≤ c ∧ c ≤ 127) (hk : norm c = 7) (w : World) :
    Calls Try.prog 3 #[.int .i8 c, .int .i32 l, .bool x] w fun e w' => e = .returned (.bool true) ∧ Grown w w' := by
  have N := norm_any c 7 h hk
  have HN := Lib.hid N
  clear N hk
  go_enter Try.func3, Try.ntmps3
  go_wp2_with (first | (go_at_call 4; refine (HN.out _).mono ?_; rintro e w' ⟨rfl, rfl⟩) | go_in | (refine bodyPost_ret (by simp [results, Try.results5, go_sem]; rfl) rfl ?_; simp only []; go_at_K))
  go_ret
  exact ⟨rfl, by repeat (first | exact Grown.refl _ | apply Grown.drew | apply Grown.alloc)⟩
set_option maxRecDepth 100000 in
set_option maxHeartbeats 400000 in
theorem case8 (c : Int) (l : Int) (x : Bool) (h : -128 ≤ c ∧ c ≤ 127) (hk : norm c = 8) (w : World) :
    Calls Try.prog 3 #[.int .i8 c, .int .i32 l, .bool x] w fun e w' => e = .returned (.bool true) ∧ Grown w w' := by
  have N := norm_any c 8 h hk
  have HN := Lib.hid N
  clear N hk
  go_enter Try.func3, Try.ntmps3
  go_wp2_with (first | (go_at_call 4; refine (HN.out _).mono ?_; rintro e w' ⟨rfl, rfl⟩) | go_in | (refine bodyPost_ret (by simp [results, Try.results5, go_sem]; rfl) rfl ?_; simp only []; go_at_K))
  go_ret
  exact ⟨rfl, by repeat (first | exact Grown.refl _ | apply Grown.drew | apply Grown.alloc)⟩
set_option maxRecDepth 100000 in
set_option maxHeartbeats 400000 in
theorem case9 (c : Int) (l : Int) (x : Bool) (h : -128 ≤ c ∧ c ≤ 127) (hk : norm c = 9) (w : World) :
    Calls Try.prog 3 #[.int .i8 c, .int .i32 l, .bool x] w fun e w' => e = .returned (.bool true) ∧ Grown w w' := by
  have N := norm_any c 9 h hk
  have HN := Lib.hid N
  clear N hk
  go_enter Try.func3, Try.ntmps3
  go_wp2_with (first | (go_at_call 4; refine (HN.out _).mono ?_; rintro e w' ⟨rfl, rfl⟩) | go_in | (refine bodyPost_ret (by simp [results, Try.results5, go_sem]; rfl) rfl ?_; simp only []; go_at_K))
  go_ret
  exact ⟨rfl, by repeat (first | exact Grown.refl _ | apply Grown.drew | apply Grown.alloc)⟩
set_option maxRecDepth 100000 in
set_option maxHeartbeats 400000 in
theorem case10 (c : Int) (l : Int) (x : Bool) (h : -128 ≤ c ∧ c ≤ 127) (hk : norm c = 10) (w : World) :
    Calls Try.prog 3 #[.int .i8 c, .int .i32 l, .bool x] w fun e w' => e = .returned (.bool true) ∧ Grown w w' := by
  have N := norm_any c 10 h hk
  have HN := Lib.hid N
  clear N hk
  go_enter Try.func3, Try.ntmps3
  go_wp2_with (first | (go_at_call 4; refine (HN.out _).mono ?_; rintro e w' ⟨rfl, rfl⟩) | go_in | (refine bodyPost_ret (by simp [results, Try.results5, go_sem]; rfl) rfl ?_; simp only []; go_at_K))
  go_ret
  exact ⟨rfl, by repeat (first | exact Grown.refl _ | apply Grown.drew | apply Grown.alloc)⟩
set_option maxRecDepth 100000 in
set_option maxHeartbeats 400000 in
theorem case11 (c : Int) (l : Int) (x : Bool) (h : -128 ≤ c ∧ c ≤ 127) (hk : norm c = 11) (w : World) :
    Calls Try.prog 3 #[.int .i8 c, .int .i32 l, .bool x] w fun e w' => e = .returned (.bool true) ∧ Grown w w' := by
  have N := norm_any c 11 h hk
  have HN := Lib.hid N
  clear N hk
  go_enter Try.func3, Try.ntmps3
  go_wp2_with (first | (go_at_call 4; refine (HN.out _).mono ?_; rintro e w' ⟨rfl, rfl⟩) | go_in | (refine bodyPost_ret (by simp [results, Try.results5, go_sem]; rfl) rfl ?_; simp only []; go_at_K))
  go_ret
  exact ⟨rfl, by repeat (first | exact Grown.refl _ | apply Grown.drew | apply Grown.alloc)⟩
set_option maxRecDepth 100000 in
set_option maxHeartbeats 400000 in
theorem case12 (c : Int) (l : Int) (x : Bool) (h : -128 ≤ c ∧ c ≤ 127) (hk : norm c = 12) (w : World) :
    Calls Try.prog 3 #[.int .i8 c, .int .i32 l, .bool x] w fun e w' => e = .returned (.bool true) ∧ Grown w w' := by
  have N := norm_any c 12 h hk
  have HN := Lib.hid N
  clear N hk
  go_enter Try.func3, Try.ntmps3
  go_wp2_with (first | (go_at_call 4; refine (HN.out _).mono ?_; rintro e w' ⟨rfl, rfl⟩) | go_in | (refine bodyPost_ret (by simp [results, Try.results5, go_sem]; rfl) rfl ?_; simp only []; go_at_K))
  go_ret
  exact ⟨rfl, by repeat (first | exact Grown.refl _ | apply Grown.drew | apply Grown.alloc)⟩
set_option maxRecDepth 100000 in
set_option maxHeartbeats 400000 in
theorem case13 (c : Int) (l : Int) (x : Bool) (h : -128 ≤ c ∧ c ≤ 127) (hk : norm c = 13) (w : World) :
    Calls Try.prog 3 #[.int .i8 c, .int .i32 l, .bool x] w fun e w' => e = .returned (.bool true) ∧ Grown w w' := by
  have N := norm_any c 13 h hk
  have HN := Lib.hid N
  clear N hk
  go_enter Try.func3, Try.ntmps3
  go_wp2_with (first | (go_at_call 4; refine (HN.out _).mono ?_; rintro e w' ⟨rfl, rfl⟩) | go_in | (refine bodyPost_ret (by simp [results, Try.results5, go_sem]; rfl) rfl ?_; simp only []; go_at_K))
  go_ret
  exact ⟨rfl, by repeat (first | exact Grown.refl _ | apply Grown.drew | apply Grown.alloc)⟩
set_option maxRecDepth 100000 in
set_option maxHeartbeats 400000 in
theorem case14 (c : Int) (l : Int) (x : Bool) (h : -128 ≤ c ∧ c ≤ 127) (hk : norm c = 14) (w : World) :
    Calls Try.prog 3 #[.int .i8 c, .int .i32 l, .bool x] w fun e w' => e = .returned (.bool true) ∧ Grown w w' := by
  have N := norm_any c 14 h hk
  have HN := Lib.hid N
  clear N hk
  go_enter Try.func3, Try.ntmps3
  go_wp2_with (first | (go_at_call 4; refine (HN.out _).mono ?_; rintro e w' ⟨rfl, rfl⟩) | go_in | (refine bodyPost_ret (by simp [results, Try.results5, go_sem]; rfl) rfl ?_; simp only []; go_at_K))
  go_ret
  exact ⟨rfl, by repeat (first | exact Grown.refl _ | apply Grown.drew | apply Grown.alloc)⟩
set_option maxRecDepth 100000 in
set_option maxHeartbeats 400000 in
theorem case15 (c : Int) (l : Int) (x : Bool) (h : -128 ≤ c ∧ c ≤ 127) (hk : norm c = 15) (w : World) :
    Calls Try.prog 3 #[.int .i8 c, .int .i32 l, .bool x] w fun e w' => e = .returned (.bool true) ∧ Grown w w' := by
  have N := norm_any c 15 h hk
  have HN := Lib.hid N
  clear N hk
  go_enter Try.func3, Try.ntmps3
  go_wp2_with (first | (go_at_call 4; refine (HN.out _).mono ?_; rintro e w' ⟨rfl, rfl⟩) | go_in | (refine bodyPost_ret (by simp [results, Try.results5, go_sem]; rfl) rfl ?_; simp only []; go_at_K))
  go_ret
  exact ⟨rfl, by repeat (first | exact Grown.refl _ | apply Grown.drew | apply Grown.alloc)⟩
set_option maxRecDepth 100000 in
set_option maxHeartbeats 400000 in
theorem case16 (c : Int) (l : Int) (x : Bool) (h : -128 ≤ c ∧ c ≤ 127) (hk : norm c = 16) (w : World) :
    Calls Try.prog 3 #[.int .i8 c, .int .i32 l, .bool x] w fun e w' => e = .returned (.bool true) ∧ Grown w w' := by
  have N := norm_any c 16 h hk
  have HN := Lib.hid N
  clear N hk
  go_enter Try.func3, Try.ntmps3
  go_wp2_with (first | (go_at_call 4; refine (HN.out _).mono ?_; rintro e w' ⟨rfl, rfl⟩) | go_in | (refine bodyPost_ret (by simp [results, Try.results5, go_sem]; rfl) rfl ?_; simp only []; go_at_K))
  go_ret
  exact ⟨rfl, by repeat (first | exact Grown.refl _ | apply Grown.drew | apply Grown.alloc)⟩
set_option maxRecDepth 100000 in
set_option maxHeartbeats 400000 in
theorem case17 (c : Int) (l : Int) (x : Bool) (h : -128 ≤ c ∧ c ≤ 127) (hk : norm c = 17) (w : World) :
    Calls Try.prog 3 #[.int .i8 c, .int .i32 l, .bool x] w fun e w' => e = .returned (.bool true) ∧ Grown w w' := by
  have N := norm_any c 17 h hk
  have HN := Lib.hid N
  clear N hk
  go_enter Try.func3, Try.ntmps3
  go_wp2_with (first | (go_at_call 4; refine (HN.out _).mono ?_; rintro e w' ⟨rfl, rfl⟩) | go_in | (refine bodyPost_ret (by simp [results, Try.results5, go_sem]; rfl) rfl ?_; simp only []; go_at_K))
  go_ret
  exact ⟨rfl, by repeat (first | exact Grown.refl _ | apply Grown.drew | apply Grown.alloc)⟩
set_option maxRecDepth 100000 in
set_option maxHeartbeats 400000 in
theorem case18 (c : Int) (l : Int) (x : Bool) (h : -128 ≤ c ∧ c ≤ 127) (hk : norm c = 18) (w : World) :
    Calls Try.prog 3 #[.int .i8 c, .int .i32 l, .bool x] w fun e w' => e = .returned (.bool true) ∧ Grown w w' := by
  have N := norm_any c 18 h hk
  have HN := Lib.hid N
  clear N hk
  go_enter Try.func3, Try.ntmps3
  go_wp2_with (first | (go_at_call 4; refine (HN.out _).mono ?_; rintro e w' ⟨rfl, rfl⟩) | go_in | (refine bodyPost_ret (by simp [results, Try.results5, go_sem]; rfl) rfl ?_; simp only []; go_at_K))
  go_ret
  exact ⟨rfl, by repeat (first | exact Grown.refl _ | apply Grown.drew | apply Grown.alloc)⟩
set_option maxRecDepth 100000 in
set_option maxHeartbeats 400000 in
theorem case19 (c : Int) (l : Int) (x : Bool) (h : -128 ≤ c ∧ c ≤ 127) (hk : norm c = 19) (w : World) :
    Calls Try.prog 3 #[.int .i8 c, .int .i32 l, .bool x] w fun e w' => e = .returned (.bool true) ∧ Grown w w' := by
  have N := norm_any c 19 h hk
  have HN := Lib.hid N
  clear N hk
  go_enter Try.func3, Try.ntmps3
  go_wp2_with (first | (go_at_call 4; refine (HN.out _).mono ?_; rintro e w' ⟨rfl, rfl⟩) | go_in | (refine bodyPost_ret (by simp [results, Try.results5, go_sem]; rfl) rfl ?_; simp only []; go_at_K))
  go_ret
  exact ⟨rfl, by repeat (first | exact Grown.refl _ | apply Grown.drew | apply Grown.alloc)⟩
set_option maxRecDepth 100000 in
set_option maxHeartbeats 400000 in
theorem case20 (c : Int) (l : Int) (x : Bool) (h : -128 ≤ c ∧ c ≤ 127) (hk : norm c = 20) (w : World) :
    Calls Try.prog 3 #[.int .i8 c, .int .i32 l, .bool x] w fun e w' => e = .returned (.bool true) ∧ Grown w w' := by
  have N := norm_any c 20 h hk
  have HN := Lib.hid N
  clear N hk
  go_enter Try.func3, Try.ntmps3
  go_wp2_with (first | (go_at_call 4; refine (HN.out _).mono ?_; rintro e w' ⟨rfl, rfl⟩) | go_in | (refine bodyPost_ret (by simp [results, Try.results5, go_sem]; rfl) rfl ?_; simp only []; go_at_K))
  go_ret
  exact ⟨rfl, by repeat (first | exact Grown.refl _ | apply Grown.drew | apply Grown.alloc)⟩
set_option maxRecDepth 100000 in
set_option maxHeartbeats 400000 in
theorem case21 (c : Int) (l : Int) (x : Bool) (h : -128 ≤ c ∧ c ≤ 127) (hk : norm c = 21) (w : World) :
    Calls Try.prog 3 #[.int .i8 c, .int .i32 l, .bool x] w fun e w' => e = .returned (.bool true) ∧ Grown w w' := by
  have N := norm_any c 21 h hk
  have HN := Lib.hid N
  clear N hk
  go_enter Try.func3, Try.ntmps3
  go_wp2_with (first | (go_at_call 4; refine (HN.out _).mono ?_; rintro e w' ⟨rfl, rfl⟩) | go_in | (refine bodyPost_ret (by simp [results, Try.results5, go_sem]; rfl) rfl ?_; simp only []; go_at_K))
  go_ret
  exact ⟨rfl, by repeat (first | exact Grown.refl _ | apply Grown.drew | apply Grown.alloc)⟩
set_option maxRecDepth 100000 in
set_option maxHeartbeats 400000 in
theorem case22 (c : Int) (l : Int) (x : Bool) (h : -128 ≤ c ∧ c ≤ 127) (hk : norm c = 22) (w : World) :
    Calls Try.prog 3 #[.int .i8 c, .int .i32 l, .bool x] w fun e w' => e = .returned (.bool true) ∧ Grown w w' := by
  have N := norm_any c 22 h hk
  have HN := Lib.hid N
  clear N hk
  go_enter Try.func3, Try.ntmps3
  go_wp2_with (first | (go_at_call 4; refine (HN.out _).mono ?_; rintro e w' ⟨rfl, rfl⟩) | go_in | (refine bodyPost_ret (by simp [results, Try.results5, go_sem]; rfl) rfl ?_; simp only []; go_at_K))
  go_ret
  exact ⟨rfl, by repeat (first | exact Grown.refl _ | apply Grown.drew | apply Grown.alloc)⟩
set_option maxRecDepth 100000 in
set_option maxHeartbeats 400000 in
theorem case23 (c : Int) (l : Int) (x : Bool) (h : -128 ≤ c ∧ c ≤ 127) (hk : norm c = 23) (w : World) :
    Calls Try.prog 3 #[.int .i8 c, .int .i32 l, .bool x] w fun e w' => e = .returned (.bool true) ∧ Grown w w' := by
  have N := norm_any c 23 h hk
  have HN := Lib.hid N
  clear N hk
  go_enter Try.func3, Try.ntmps3
  go_wp2_with (first | (go_at_call 4; refine (HN.out _).mono ?_; rintro e w' ⟨rfl, rfl⟩) | go_in | (refine bodyPost_ret (by simp [results, Try.results5, go_sem]; rfl) rfl ?_; simp only []; go_at_K))
  go_ret
  exact ⟨rfl, by repeat (first | exact Grown.refl _ | apply Grown.drew | apply Grown.alloc)⟩
set_option maxRecDepth 100000 in
set_option maxHeartbeats 400000 in
theorem case24 (c : Int) (l : Int) (x : Bool) (h : -128 ≤ c ∧ c ≤ 127) (hk : norm c = 24) (w : World) :
    Calls Try.prog 3 #[.int .i8 c, .int .i32 l, .bool x] w fun e w' => e = .returned (.bool true) ∧ Grown w w' := by
  have N := norm_any c 24 h hk
  have HN := Lib.hid N
  clear N hk
  go_enter Try.func3, Try.ntmps3
  go_wp2_with (first | (go_at_call 4; refine (HN.out _).mono ?_; rintro e w' ⟨rfl, rfl⟩) | go_in | (refine bodyPost_ret (by simp [results, Try.results5, go_sem]; rfl) rfl ?_; simp only []; go_at_K))
  go_ret
  exact ⟨rfl, by repeat (first | exact Grown.refl _ | apply Grown.drew | apply Grown.alloc)⟩
set_option maxRecDepth 100000 in
set_option maxHeartbeats 400000 in
theorem case25 (c : Int) (l : Int) (x : Bool) (h : -128 ≤ c ∧ c ≤ 127) (hk : norm c = 25) (w : World) :
    Calls Try.prog 3 #[.int .i8 c, .int .i32 l, .bool x] w fun e w' => e = .returned (.bool true) ∧ Grown w w' := by
  have N := norm_any c 25 h hk
  have HN := Lib.hid N
  clear N hk
  go_enter Try.func3, Try.ntmps3
  go_wp2_with (first | (go_at_call 4; refine (HN.out _).mono ?_; rintro e w' ⟨rfl, rfl⟩) | go_in | (refine bodyPost_ret (by simp [results, Try.results5, go_sem]; rfl) rfl ?_; simp only []; go_at_K))
  go_ret
  exact ⟨rfl, by repeat (first | exact Grown.refl _ | apply Grown.drew | apply Grown.alloc)⟩

theorem walk (a0 : Int) (a1 : Int) (a2 : Bool) (w0 : (Lit.int .i8 a0).wf = true) (w1 : (Lit.int .i32 a1).wf = true) (w : World) :
    Calls Try.prog 3 #[.int .i8 a0, .int .i32 a1, .bool a2] w fun e w' => e = .returned (.bool true) ∧ Grown w w' := by
  have hx : -128 ≤ a0 ∧ a0 ≤ 127 := by simpa [Lit.wf, IntKind.min, IntKind.max, IntKind.signed, IntKind.bits] using w0
  have hb := norm_bd a0
  have hc : norm a0 = 0 ∨ norm a0 = 1 ∨ norm a0 = 2 ∨ norm a0 = 3 ∨ norm a0 = 4 ∨ norm a0 = 5 ∨ norm a0 = 6 ∨ norm a0 = 7 ∨ norm a0 = 8 ∨ norm a0 = 9 ∨ norm a0 = 10 ∨ norm a0 = 11 ∨ norm a0 = 12 ∨ norm a0 = 13 ∨ norm a0 = 14 ∨ norm a0 = 15 ∨ norm a0 = 16 ∨ norm a0 = 17 ∨ norm a0 = 18 ∨ norm a0 = 19 ∨ norm a0 = 20 ∨ norm a0 = 21 ∨ norm a0 = 22 ∨ norm a0 = 23 ∨ norm a0 = 24 ∨ norm a0 = 25 := by omega
  rcases hc with hk | hk | hk | hk | hk | hk | hk | hk | hk | hk | hk | hk | hk | hk | hk | hk | hk | hk | hk | hk | hk | hk | hk | hk | hk | hk
  · exact case0 a0 a1 a2 hx hk w
  · exact case1 a0 a1 a2 hx hk w
  · exact case2 a0 a1 a2 hx hk w
  · exact case3 a0 a1 a2 hx hk w
  · exact case4 a0 a1 a2 hx hk w
  · exact case5 a0 a1 a2 hx hk w
  · exact case6 a0 a1 a2 hx hk w
  · exact case7 a0 a1 a2 hx hk w
  · exact case8 a0 a1 a2 hx hk w
  · exact case9 a0 a1 a2 hx hk w
  · exact case10 a0 a1 a2 hx hk w
  · exact case11 a0 a1 a2 hx hk w
  · exact case12 a0 a1 a2 hx hk w
  · exact case13 a0 a1 a2 hx hk w
  · exact case14 a0 a1 a2 hx hk w
  · exact case15 a0 a1 a2 hx hk w
  · exact case16 a0 a1 a2 hx hk w
  · exact case17 a0 a1 a2 hx hk w
  · exact case18 a0 a1 a2 hx hk w
  · exact case19 a0 a1 a2 hx hk w
  · exact case20 a0 a1 a2 hx hk w
  · exact case21 a0 a1 a2 hx hk w
  · exact case22 a0 a1 a2 hx hk w
  · exact case23 a0 a1 a2 hx hk w
  · exact case24 a0 a1 a2 hx hk w
  · exact case25 a0 a1 a2 hx hk w

/-! ### THE ROW's STEP: WRITTEN OUT: LEAVE IT -/
set_option maxRecDepth 100000 in
theorem lifted (os : Os) (started : os.Started) (H : Type) (enc : TypeId × Value → H) :
    ReturnsInHanded {} Try.checked os 3 .any (Rows.fnStmtCaresAboutScopeCaseTableSpec.pre6 enc Try.prog Try.f3 Rows.fnStmtCaresAboutScopeCaseTableRow.domain false) (Rows.fnStmtCaresAboutScopeCaseTableSpec.post enc Try.prog Try.f3 false true false false) := by
  refine returnsInHanded_of_change (C := Try.checked) own started (by kernel_rfl) Try.func3
    (ChangeSpec.witness6 (enc := enc) (C := Try.checked) false ⟨#[], #[.int .i8 0, .int .i32 0, .bool false], []⟩ 8 (by kernel_rfl) (by kernel_rfl) (by kernel_rfl) (by kernel_rfl)) ?_
  intro W base args ds gs before hval0 hW hcnd _
  have hval : ∀ (j : Nat) t v, Try.f3.params[j]? = some t → args[j]? = some v → Value.okWide Try.prog W .any base t v := hval0
  have hW' := hW
  obtain ⟨p, q, hA0, hV, rfl, hfz, hnd⟩ := hW
  have hA : DataW.TrodAll enc Try.prog W 0 (fun _ => true) true Try.f3.params.toList args.toList ds p := hA0
  rw [Try.params3] at hA hval
  obtain ⟨v0, vs0, d0, ds0, p0, q0, hargs, rfl, rfl, h0, r0⟩ := trodAll_cons hA
  obtain ⟨v1, vs1, d1, ds1, p1, q1, rfl, rfl, rfl, h1, r1⟩ := trodAll_cons r0
  obtain ⟨v2, vs2, d2, ds2, p2, q2, rfl, rfl, rfl, h2, r2⟩ := trodAll_cons r1
  obtain ⟨rfl, rfl, rfl⟩ := trodAll_nil r2
  obtain rfl : args = #[v0, v1, v2] := by cases args; simp_all
  obtain ⟨rfl, rfl⟩ := trodVars_none hV
  obtain ⟨a0, rfl, rfl, rfl, w0⟩ := open_int Try.underlying22 (hval 0 22 v0 rfl rfl) h0
  obtain ⟨a1, rfl, rfl, rfl, w1⟩ := open_int Try.underlying21 (hval 1 21 v1 rfl rfl) h1
  obtain ⟨a2, rfl, rfl, rfl⟩ := open_bool Try.underlying4 (hval 2 4 v2 rfl rfl) h2
  clear hA0 hval0
  simp only [List.append_nil] at hW'
  refine (walk a0 a1 a2 w0 w1 W).mono fun e W' ⟨he, hg⟩ => ?_
  subst he
  exact ⟨_, rfl, post_of_same (pa := []) (pv := []) hW' (fun _ _ _ => (trodAll_cons_mk (shut_bool Try.underlying4 _) trodAll_mk0)) (fun sp _ => (trodAll_cons_mk (shut_int Try.underlying22 w0) (trodAll_cons_mk (shut_int Try.underlying21 w1) (trodAll_cons_mk (shut_bool Try.underlying4 _) trodAll_mk0)))) (fun _ _ => rfl) rfl
    (hg.frame _) hg.2.1 (ok_one (by kernel_rfl) rfl (okWide_bool_mk Try.underlying4 _))⟩

theorem over : Rows.fnStmtCaresAboutScopeCaseTableRow.holds Try.pinned (OpenSpec.ofChange Rows.fnStmtCaresAboutScopeCaseTableSpec) :=
  OpenClaim.holds_of_wide 3 Try.f3 rfl rfl rfl rfl rfl rfl rfl ⟨rfl, rfl, rfl, rfl, rfl⟩ rfl rfl rfl rfl rfl (by kernel_rfl) Try.func3 (by kernel_rfl)
    (of_decide_eq_true (by kernel_rfl)) (by unfold Func.isWrapper; first | (rw [if_pos (by decide +kernel)]; kernel_rfl) | (rw [if_neg (by decide +kernel)]; exact ⟨rfl, rfl⟩))
    (fun os started H enc _ => lifted os started H enc)

/-- ████ THE STATEMENT ████ -/
theorem proved : Rows.FnStmtCaresAboutScopeCaseTableSaid :=
  over
#print axioms proved
end Go.Proofs.Ytjmpiljbiklgjaa.fnStmtCaresAboutScopeCaseTable
