import Derived.Test.Qxb6615599aProg
import Derived.WalkKit
import Derived.WalkSpells
import Derived.WalkLawsBesides
import Derived.Deep.QuietTactic
import Derived.BigQuiet
import Derived.Deep.RegionHeld3
import Derived.Deep.DrawnRows
import Derived.Deep.DeepCutAuto
import Derived.Deep.LoopGhost
namespace Go.Proofs.Qxb6615599a
open Go.RowKit
set_option linter.unusedVariables false
set_option maxRecDepth 100000

theorem lt_of_heap {w : World} {k : Nat} {o : Obj} (hk : w.heap[k]? = some o) : k < w.heap.size := (Array.getElem?_eq_some_iff.1 hk).1

theorem rowFacts {w : World} {g : Nat} {cs : Array Value} {t : TypeId} (h : w.heap[g]? = some (.cells cs t (0, 0))) : (∀ j, w.cell? ⟨g, j, none⟩ = cs[j]?) ∧ (∀ j, w.frozen? ⟨g, j, none⟩ = false) :=
  ⟨fun j => cell_of_row w g j _ _ _ h, fun j => frozen_of_row w g j _ _ h⟩

theorem Below.blk {w w' : World} (h : Below w.heap.size w w') {k : Nat} {o : Obj} (hk : w.heap[k]? = some o) : w'.heap[k]? = some o :=
  (h.block k (lt_of_heap hk)).trans hk

theorem zero48 (W : World) : (do pure (Value.tuple #[← zeroValue 48, .bool false]) : Sem Value).run Try.prog W = .ok (.tuple #[.pointer none, .bool false]) W := by kernel_rfl
theorem no48 (u : TypeId) (v : Value) (h : u ≠ 48) (W : World) : (Instr.typeAssert (.iface u v) 29 48 true).run Try.prog W = .ok (.tuple #[.pointer none, .bool false]) W := by
  have e : (Instr.typeAssert (.iface u v) 29 48 true).run Try.prog W = (if u = 48 then (pure (Value.tuple #[v, .bool true]) : Sem Value) else (do pure (Value.tuple #[← zeroValue 48, .bool false]))).run Try.prog W := by kernel_rfl
  rw [e, if_neg h]
  exact zero48 W
theorem zero91 (W : World) : (do pure (Value.tuple #[← zeroValue 91, .bool false]) : Sem Value).run Try.prog W = .ok (.tuple #[.pointer none, .bool false]) W := by kernel_rfl
theorem no91 (u : TypeId) (v : Value) (h : u ≠ 91) (W : World) : (Instr.typeAssert (.iface u v) 29 91 true).run Try.prog W = .ok (.tuple #[.pointer none, .bool false]) W := by
  have e : (Instr.typeAssert (.iface u v) 29 91 true).run Try.prog W = (if u = 91 then (pure (Value.tuple #[v, .bool true]) : Sem Value) else (do pure (Value.tuple #[← zeroValue 91, .bool false]))).run Try.prog W := by kernel_rfl
  rw [e, if_neg h]
  exact zero91 W
theorem zero95 (W : World) : (do pure (Value.tuple #[← zeroValue 95, .bool false]) : Sem Value).run Try.prog W = .ok (.tuple #[.pointer none, .bool false]) W := by kernel_rfl
theorem no95 (u : TypeId) (v : Value) (h : u ≠ 95) (W : World) : (Instr.typeAssert (.iface u v) 29 95 true).run Try.prog W = .ok (.tuple #[.pointer none, .bool false]) W := by
  have e : (Instr.typeAssert (.iface u v) 29 95 true).run Try.prog W = (if u = 95 then (pure (Value.tuple #[v, .bool true]) : Sem Value) else (do pure (Value.tuple #[← zeroValue 95, .bool false]))).run Try.prog W := by kernel_rfl
  rw [e, if_neg h]
  exact zero95 W
theorem zero88 (W : World) : (do pure (Value.tuple #[← zeroValue 88, .bool false]) : Sem Value).run Try.prog W = .ok (.tuple #[.pointer none, .bool false]) W := by kernel_rfl
theorem no88 (u : TypeId) (v : Value) (h : u ≠ 88) (W : World) : (Instr.typeAssert (.iface u v) 29 88 true).run Try.prog W = .ok (.tuple #[.pointer none, .bool false]) W := by
  have e : (Instr.typeAssert (.iface u v) 29 88 true).run Try.prog W = (if u = 88 then (pure (Value.tuple #[v, .bool true]) : Sem Value) else (do pure (Value.tuple #[← zeroValue 88, .bool false]))).run Try.prog W := by kernel_rfl
  rw [e, if_neg h]
  exact zero88 W
theorem zero98 (W : World) : (do pure (Value.tuple #[← zeroValue 98, .bool false]) : Sem Value).run Try.prog W = .ok (.tuple #[.pointer none, .bool false]) W := by kernel_rfl
theorem no98 (u : TypeId) (v : Value) (h : u ≠ 98) (W : World) : (Instr.typeAssert (.iface u v) 29 98 true).run Try.prog W = .ok (.tuple #[.pointer none, .bool false]) W := by
  have e : (Instr.typeAssert (.iface u v) 29 98 true).run Try.prog W = (if u = 98 then (pure (Value.tuple #[v, .bool true]) : Sem Value) else (do pure (Value.tuple #[← zeroValue 98, .bool false]))).run Try.prog W := by kernel_rfl
  rw [e, if_neg h]
  exact zero98 W
theorem zero101 (W : World) : (do pure (Value.tuple #[← zeroValue 101, .bool false]) : Sem Value).run Try.prog W = .ok (.tuple #[.pointer none, .bool false]) W := by kernel_rfl
theorem no101 (u : TypeId) (v : Value) (h : u ≠ 101) (W : World) : (Instr.typeAssert (.iface u v) 29 101 true).run Try.prog W = .ok (.tuple #[.pointer none, .bool false]) W := by
  have e : (Instr.typeAssert (.iface u v) 29 101 true).run Try.prog W = (if u = 101 then (pure (Value.tuple #[v, .bool true]) : Sem Value) else (do pure (Value.tuple #[← zeroValue 101, .bool false]))).run Try.prog W := by kernel_rfl
  rw [e, if_neg h]
  exact zero101 W
theorem zero83 (W : World) : (do pure (Value.tuple #[← zeroValue 83, .bool false]) : Sem Value).run Try.prog W = .ok (.tuple #[.pointer none, .bool false]) W := by kernel_rfl
theorem no83 (u : TypeId) (v : Value) (h : u ≠ 83) (W : World) : (Instr.typeAssert (.iface u v) 29 83 true).run Try.prog W = .ok (.tuple #[.pointer none, .bool false]) W := by
  have e : (Instr.typeAssert (.iface u v) 29 83 true).run Try.prog W = (if u = 83 then (pure (Value.tuple #[v, .bool true]) : Sem Value) else (do pure (Value.tuple #[← zeroValue 83, .bool false]))).run Try.prog W := by kernel_rfl
  rw [e, if_neg h]
  exact zero83 W
theorem zero104 (W : World) : (do pure (Value.tuple #[← zeroValue 104, .bool false]) : Sem Value).run Try.prog W = .ok (.tuple #[.pointer none, .bool false]) W := by kernel_rfl
theorem no104 (u : TypeId) (v : Value) (h : u ≠ 104) (W : World) : (Instr.typeAssert (.iface u v) 29 104 true).run Try.prog W = .ok (.tuple #[.pointer none, .bool false]) W := by
  have e : (Instr.typeAssert (.iface u v) 29 104 true).run Try.prog W = (if u = 104 then (pure (Value.tuple #[v, .bool true]) : Sem Value) else (do pure (Value.tuple #[← zeroValue 104, .bool false]))).run Try.prog W := by kernel_rfl
  rw [e, if_neg h]
  exact zero104 W
theorem zero108 (W : World) : (do pure (Value.tuple #[← zeroValue 108, .bool false]) : Sem Value).run Try.prog W = .ok (.tuple #[.pointer none, .bool false]) W := by kernel_rfl
theorem no108 (u : TypeId) (v : Value) (h : u ≠ 108) (W : World) : (Instr.typeAssert (.iface u v) 29 108 true).run Try.prog W = .ok (.tuple #[.pointer none, .bool false]) W := by
  have e : (Instr.typeAssert (.iface u v) 29 108 true).run Try.prog W = (if u = 108 then (pure (Value.tuple #[v, .bool true]) : Sem Value) else (do pure (Value.tuple #[← zeroValue 108, .bool false]))).run Try.prog W := by kernel_rfl
  rw [e, if_neg h]
  exact zero108 W
theorem zero72 (W : World) : (do pure (Value.tuple #[← zeroValue 72, .bool false]) : Sem Value).run Try.prog W = .ok (.tuple #[.pointer none, .bool false]) W := by kernel_rfl
theorem no72 (u : TypeId) (v : Value) (h : u ≠ 72) (W : World) : (Instr.typeAssert (.iface u v) 29 72 true).run Try.prog W = .ok (.tuple #[.pointer none, .bool false]) W := by
  have e : (Instr.typeAssert (.iface u v) 29 72 true).run Try.prog W = (if u = 72 then (pure (Value.tuple #[v, .bool true]) : Sem Value) else (do pure (Value.tuple #[← zeroValue 72, .bool false]))).run Try.prog W := by kernel_rfl
  rw [e, if_neg h]
  exact zero72 W
theorem zero67 (W : World) : (do pure (Value.tuple #[← zeroValue 67, .bool false]) : Sem Value).run Try.prog W = .ok (.tuple #[.pointer none, .bool false]) W := by kernel_rfl
theorem no67 (u : TypeId) (v : Value) (h : u ≠ 67) (W : World) : (Instr.typeAssert (.iface u v) 29 67 true).run Try.prog W = .ok (.tuple #[.pointer none, .bool false]) W := by
  have e : (Instr.typeAssert (.iface u v) 29 67 true).run Try.prog W = (if u = 67 then (pure (Value.tuple #[v, .bool true]) : Sem Value) else (do pure (Value.tuple #[← zeroValue 67, .bool false]))).run Try.prog W := by kernel_rfl
  rw [e, if_neg h]
  exact zero67 W
theorem zero59 (W : World) : (do pure (Value.tuple #[← zeroValue 59, .bool false]) : Sem Value).run Try.prog W = .ok (.tuple #[.pointer none, .bool false]) W := by kernel_rfl
theorem no59 (u : TypeId) (v : Value) (h : u ≠ 59) (W : World) : (Instr.typeAssert (.iface u v) 29 59 true).run Try.prog W = .ok (.tuple #[.pointer none, .bool false]) W := by
  have e : (Instr.typeAssert (.iface u v) 29 59 true).run Try.prog W = (if u = 59 then (pure (Value.tuple #[v, .bool true]) : Sem Value) else (do pure (Value.tuple #[← zeroValue 59, .bool false]))).run Try.prog W := by kernel_rfl
  rw [e, if_neg h]
  exact zero59 W
theorem zero63 (W : World) : (do pure (Value.tuple #[← zeroValue 63, .bool false]) : Sem Value).run Try.prog W = .ok (.tuple #[.pointer none, .bool false]) W := by kernel_rfl
theorem no63 (u : TypeId) (v : Value) (h : u ≠ 63) (W : World) : (Instr.typeAssert (.iface u v) 29 63 true).run Try.prog W = .ok (.tuple #[.pointer none, .bool false]) W := by
  have e : (Instr.typeAssert (.iface u v) 29 63 true).run Try.prog W = (if u = 63 then (pure (Value.tuple #[v, .bool true]) : Sem Value) else (do pure (Value.tuple #[← zeroValue 63, .bool false]))).run Try.prog W := by kernel_rfl
  rw [e, if_neg h]
  exact zero63 W
theorem zero53 (W : World) : (do pure (Value.tuple #[← zeroValue 53, .bool false]) : Sem Value).run Try.prog W = .ok (.tuple #[.pointer none, .bool false]) W := by kernel_rfl
theorem no53 (u : TypeId) (v : Value) (h : u ≠ 53) (W : World) : (Instr.typeAssert (.iface u v) 29 53 true).run Try.prog W = .ok (.tuple #[.pointer none, .bool false]) W := by
  have e : (Instr.typeAssert (.iface u v) 29 53 true).run Try.prog W = (if u = 53 then (pure (Value.tuple #[v, .bool true]) : Sem Value) else (do pure (Value.tuple #[← zeroValue 53, .bool false]))).run Try.prog W := by kernel_rfl
  rw [e, if_neg h]
  exact zero53 W
theorem zero39 (W : World) : (do pure (Value.tuple #[← zeroValue 39, .bool false]) : Sem Value).run Try.prog W = .ok (.tuple #[.pointer none, .bool false]) W := by kernel_rfl
theorem no39 (u : TypeId) (v : Value) (h : u ≠ 39) (W : World) : (Instr.typeAssert (.iface u v) 29 39 true).run Try.prog W = .ok (.tuple #[.pointer none, .bool false]) W := by
  have e : (Instr.typeAssert (.iface u v) 29 39 true).run Try.prog W = (if u = 39 then (pure (Value.tuple #[v, .bool true]) : Sem Value) else (do pure (Value.tuple #[← zeroValue 39, .bool false]))).run Try.prog W := by kernel_rfl
  rw [e, if_neg h]
  exact zero39 W
theorem zero43 (W : World) : (do pure (Value.tuple #[← zeroValue 43, .bool false]) : Sem Value).run Try.prog W = .ok (.tuple #[.pointer none, .bool false]) W := by kernel_rfl
theorem no43 (u : TypeId) (v : Value) (h : u ≠ 43) (W : World) : (Instr.typeAssert (.iface u v) 29 43 true).run Try.prog W = .ok (.tuple #[.pointer none, .bool false]) W := by
  have e : (Instr.typeAssert (.iface u v) 29 43 true).run Try.prog W = (if u = 43 then (pure (Value.tuple #[v, .bool true]) : Sem Value) else (do pure (Value.tuple #[← zeroValue 43, .bool false]))).run Try.prog W := by kernel_rfl
  rw [e, if_neg h]
  exact zero43 W
theorem zero47 (W : World) : (do pure (Value.tuple #[← zeroValue 47, .bool false]) : Sem Value).run Try.prog W = .ok (.tuple #[.pointer none, .bool false]) W := by kernel_rfl
theorem no47 (u : TypeId) (v : Value) (h : u ≠ 47) (W : World) : (Instr.typeAssert (.iface u v) 29 47 true).run Try.prog W = .ok (.tuple #[.pointer none, .bool false]) W := by
  have e : (Instr.typeAssert (.iface u v) 29 47 true).run Try.prog W = (if u = 47 then (pure (Value.tuple #[v, .bool true]) : Sem Value) else (do pure (Value.tuple #[← zeroValue 47, .bool false]))).run Try.prog W := by kernel_rfl
  rw [e, if_neg h]
  exact zero47 W
theorem zero56 (W : World) : (do pure (Value.tuple #[← zeroValue 56, .bool false]) : Sem Value).run Try.prog W = .ok (.tuple #[.pointer none, .bool false]) W := by kernel_rfl
theorem no56 (u : TypeId) (v : Value) (h : u ≠ 56) (W : World) : (Instr.typeAssert (.iface u v) 29 56 true).run Try.prog W = .ok (.tuple #[.pointer none, .bool false]) W := by
  have e : (Instr.typeAssert (.iface u v) 29 56 true).run Try.prog W = (if u = 56 then (pure (Value.tuple #[v, .bool true]) : Sem Value) else (do pure (Value.tuple #[← zeroValue 56, .bool false]))).run Try.prog W := by kernel_rfl
  rw [e, if_neg h]
  exact zero56 W
theorem zero111 (W : World) : (do pure (Value.tuple #[← zeroValue 111, .bool false]) : Sem Value).run Try.prog W = .ok (.tuple #[.pointer none, .bool false]) W := by kernel_rfl
theorem no111 (u : TypeId) (v : Value) (h : u ≠ 111) (W : World) : (Instr.typeAssert (.iface u v) 29 111 true).run Try.prog W = .ok (.tuple #[.pointer none, .bool false]) W := by
  have e : (Instr.typeAssert (.iface u v) 29 111 true).run Try.prog W = (if u = 111 then (pure (Value.tuple #[v, .bool true]) : Sem Value) else (do pure (Value.tuple #[← zeroValue 111, .bool false]))).run Try.prog W := by kernel_rfl
  rw [e, if_neg h]
  exact zero111 W
theorem yes48 (v : Value) (W : World) : (Instr.typeAssert (.iface 48 v) 29 48 true).run Try.prog W = .ok (.tuple #[v, .bool true]) W := by kernel_rfl
theorem yes88 (v : Value) (W : World) : (Instr.typeAssert (.iface 88 v) 29 88 true).run Try.prog W = .ok (.tuple #[v, .bool true]) W := by kernel_rfl
theorem yes72 (v : Value) (W : World) : (Instr.typeAssert (.iface 72 v) 29 72 true).run Try.prog W = .ok (.tuple #[v, .bool true]) W := by kernel_rfl
theorem yes67 (v : Value) (W : World) : (Instr.typeAssert (.iface 67 v) 29 67 true).run Try.prog W = .ok (.tuple #[v, .bool true]) W := by kernel_rfl
theorem yes59 (v : Value) (W : World) : (Instr.typeAssert (.iface 59 v) 29 59 true).run Try.prog W = .ok (.tuple #[v, .bool true]) W := by kernel_rfl
theorem yes63 (v : Value) (W : World) : (Instr.typeAssert (.iface 63 v) 29 63 true).run Try.prog W = .ok (.tuple #[v, .bool true]) W := by kernel_rfl
theorem yes53 (v : Value) (W : World) : (Instr.typeAssert (.iface 53 v) 29 53 true).run Try.prog W = .ok (.tuple #[v, .bool true]) W := by kernel_rfl
theorem yes39 (v : Value) (W : World) : (Instr.typeAssert (.iface 39 v) 29 39 true).run Try.prog W = .ok (.tuple #[v, .bool true]) W := by kernel_rfl
theorem yes43 (v : Value) (W : World) : (Instr.typeAssert (.iface 43 v) 29 43 true).run Try.prog W = .ok (.tuple #[v, .bool true]) W := by kernel_rfl
theorem yes47 (v : Value) (W : World) : (Instr.typeAssert (.iface 47 v) 29 47 true).run Try.prog W = .ok (.tuple #[v, .bool true]) W := by kernel_rfl
theorem yes56 (v : Value) (W : World) : (Instr.typeAssert (.iface 56 v) 29 56 true).run Try.prog W = .ok (.tuple #[v, .bool true]) W := by kernel_rfl
theorem nil48 (W : World) : (Instr.typeAssert .nilIface 29 48 true).run Try.prog W = .ok (.tuple #[.pointer none, .bool false]) W := by kernel_rfl
theorem nil91 (W : World) : (Instr.typeAssert .nilIface 29 91 true).run Try.prog W = .ok (.tuple #[.pointer none, .bool false]) W := by kernel_rfl
theorem nil95 (W : World) : (Instr.typeAssert .nilIface 29 95 true).run Try.prog W = .ok (.tuple #[.pointer none, .bool false]) W := by kernel_rfl
theorem nil88 (W : World) : (Instr.typeAssert .nilIface 29 88 true).run Try.prog W = .ok (.tuple #[.pointer none, .bool false]) W := by kernel_rfl
theorem nil98 (W : World) : (Instr.typeAssert .nilIface 29 98 true).run Try.prog W = .ok (.tuple #[.pointer none, .bool false]) W := by kernel_rfl
theorem nil101 (W : World) : (Instr.typeAssert .nilIface 29 101 true).run Try.prog W = .ok (.tuple #[.pointer none, .bool false]) W := by kernel_rfl
theorem nil83 (W : World) : (Instr.typeAssert .nilIface 29 83 true).run Try.prog W = .ok (.tuple #[.pointer none, .bool false]) W := by kernel_rfl
theorem nil104 (W : World) : (Instr.typeAssert .nilIface 29 104 true).run Try.prog W = .ok (.tuple #[.pointer none, .bool false]) W := by kernel_rfl
theorem nil108 (W : World) : (Instr.typeAssert .nilIface 29 108 true).run Try.prog W = .ok (.tuple #[.pointer none, .bool false]) W := by kernel_rfl
theorem nil72 (W : World) : (Instr.typeAssert .nilIface 29 72 true).run Try.prog W = .ok (.tuple #[.pointer none, .bool false]) W := by kernel_rfl
theorem nil67 (W : World) : (Instr.typeAssert .nilIface 29 67 true).run Try.prog W = .ok (.tuple #[.pointer none, .bool false]) W := by kernel_rfl
theorem nil59 (W : World) : (Instr.typeAssert .nilIface 29 59 true).run Try.prog W = .ok (.tuple #[.pointer none, .bool false]) W := by kernel_rfl
theorem nil63 (W : World) : (Instr.typeAssert .nilIface 29 63 true).run Try.prog W = .ok (.tuple #[.pointer none, .bool false]) W := by kernel_rfl
theorem nil53 (W : World) : (Instr.typeAssert .nilIface 29 53 true).run Try.prog W = .ok (.tuple #[.pointer none, .bool false]) W := by kernel_rfl
theorem nil39 (W : World) : (Instr.typeAssert .nilIface 29 39 true).run Try.prog W = .ok (.tuple #[.pointer none, .bool false]) W := by kernel_rfl
theorem nil43 (W : World) : (Instr.typeAssert .nilIface 29 43 true).run Try.prog W = .ok (.tuple #[.pointer none, .bool false]) W := by kernel_rfl
theorem nil47 (W : World) : (Instr.typeAssert .nilIface 29 47 true).run Try.prog W = .ok (.tuple #[.pointer none, .bool false]) W := by kernel_rfl
theorem nil56 (W : World) : (Instr.typeAssert .nilIface 29 56 true).run Try.prog W = .ok (.tuple #[.pointer none, .bool false]) W := by kernel_rfl
theorem nil111 (W : World) : (Instr.typeAssert .nilIface 29 111 true).run Try.prog W = .ok (.tuple #[.pointer none, .bool false]) W := by kernel_rfl

end Go.Proofs.Qxb6615599a
