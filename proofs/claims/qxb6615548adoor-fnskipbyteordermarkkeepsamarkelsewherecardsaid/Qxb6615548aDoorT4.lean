import Derived.Test.Qxb6615548aDoorProg
import Derived.Test.Qxb6615548aDoorBase
namespace Go.Proofs.Qxb6615548aDoor
open Go.RowKit
set_option linter.unusedVariables false
set_option maxRecDepth 100000

theorem Tryd.row5 : (Tryd.prog.info? 5).map (fun i => (i.zero, i.size, i.bytes)) = some (some (.int .u8 0), 1, 1) := by kernel_rfl

theorem make_bytes (l c : Nat) (hlc : l ≤ c) (hc : c ≤ 281474976710656) (w : World) :
    (Instr.makeSlice 32 (.int .i64 l) (.int .i64 c)).run Tryd.prog w = .ok (.slice (some ⟨w.heap.size, 0, none⟩) l c) (w.alloc (.cells (zs c).toArray 5)) := by
  obtain ⟨i0, hi, hz0, hz1, hz2⟩ := info_parts Tryd.row5
  exact run_make_bytes 32 5 i0 Tryd.underlying32 hi hz0 hz1 hz2 l c hlc hc w

set_option maxHeartbeats 400000 in
theorem readErr_any (B : Nat) (a0 a1 a2 a3 errv a5 a6 : Value) (herr : errv = .nilIface ∨ ∃ E ev, errv = .iface E ev) (w : World) (hB : w.heap[B]? = some (.cells #[a0, a1, a2, a3, errv, a5, a6] 48 (0, 0))) :
    Calls Tryd.prog 17 #[.pointer (some ⟨B, 0, none⟩)] w fun e w' => e = .returned errv ∧ w' = w.setCell ⟨B, 4, none⟩ .nilIface := by
  obtain ⟨hcB, hfB⟩ := rowFacts hB
  rcases herr with rfl | ⟨E, ev, rfl⟩
  all_goals
    go_enter Tryd.func17, Tryd.ntmps17
    go_wp2
    go_ret
    exact ⟨rfl, rfl⟩

set_option maxHeartbeats 400000 in
theorem buffered_any (B : Nat) (a0 a1 a4 a5 a6 : Value) (r wp : Nat) (hr : r ≤ wp) (hw : wp ≤ 4096) (w : World) (hB : w.heap[B]? = some (.cells #[a0, a1, .int .i64 r, .int .i64 wp, a4, a5, a6] 48 (0, 0))) :
    Calls Tryd.prog 18 #[.pointer (some ⟨B, 0, none⟩)] w fun e w' => e = .returned (.int .i64 (wp - r : Nat)) ∧ ∃ n, w' = w.drewN n := by
  obtain ⟨hcB, hfB⟩ := rowFacts hB
  go_enter Tryd.func18, Tryd.ntmps18
  go_wp2
  go_quiet (fail)
  go_wp2
  go_ret
  exact ⟨by go_num, _, rfl⟩

theorem assert37 (a : Addr) (w : World) : (Instr.typeAssert (.iface 30 (.pointer (some a))) 27 37 true).run Tryd.prog w = .ok (.tuple #[.pointer none, .bool false]) w := by kernel_rfl

set_option maxHeartbeats 400000 in
theorem newReader15 (R : Nat) (w : World) :
    Calls Tryd.prog 12 #[.iface 30 (.pointer (some ⟨R, 0, none⟩))] w fun e w' => e = .returned (.pointer (some ⟨w.heap.size, 0, none⟩)) ∧
      w'.heap[w.heap.size]? = some (.cells #[.slice (some ⟨w.heap.size + 1, 0, none⟩) 4096 4096, .iface 30 (.pointer (some ⟨R, 0, none⟩)), .int .i64 0, .int .i64 0, .nilIface, .int .i64 (-1), .int .i64 (-1)] 48 (0, 0)) ∧
      w'.heap[w.heap.size + 1]? = some (.cells (zs 4096).toArray 5 (0, 0)) ∧ Chg (fun _ => False) w w' := by
  have hmk : ∀ w, (Instr.makeSlice 32 (.int .i64 4096) (.int .i64 4096)).run Tryd.prog w = .ok (.slice (some ⟨w.heap.size, 0, none⟩) 4096 4096) (w.alloc (.cells (zs 4096).toArray 5)) :=
    fun w => make_bytes 4096 4096 (by omega) (by omega) w
  have hta := assert37
  go_enter Tryd.func12, Tryd.ntmps12
  go_wp2
  go_end0
  go_wp2
  go_ret
  exact ⟨rfl, heap_alloc2_old _ _ _, heap_alloc2_new _ _ _, ((Chg.refl _ w).alloc _).alloc _⟩

end Go.Proofs.Qxb6615548aDoor
