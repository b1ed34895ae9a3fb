import Derived.Test.Qxb6615548aDoorT1
namespace Go.Proofs.Qxb6615548aDoor
open Go.RowKit
set_option linter.unusedVariables false
set_option maxRecDepth 100000

theorem method_read' (a : Addr) (w : World) : (method 180 30 (.pointer (some a)) "Read").run Tryd.prog w = .ok (36, .pointer (some a)) w := by kernel_rfl

set_option maxHeartbeats 400000 in
theorem fill_eof (R B U : Nat) (s : ByteArray) (i : Nat) (wp : Nat) (errv : Value) (lb lr : Int) (E : TypeId) (ev : Value) (w : World) (hs : s.size ≤ 2097152) (hi : s.size ≤ i) (hi2 : i ≤ 2097152) (hw : wp < 4096)
    (c0 : w.cell? ⟨R, 0, none⟩ = some (.string s)) (c1 : w.cell? ⟨R, 1, none⟩ = some (.int .i64 i))
    (hB : w.heap[B]? = some (.cells #[.slice (some ⟨U, 0, none⟩) 4096 4096, .iface 30 (.pointer (some ⟨R, 0, none⟩)), .int .i64 0, .int .i64 wp, errv, .int .i64 lb, .int .i64 lr] 48 (0, 0)))
    (hE : w.cell? ⟨0, 0, none⟩ = some (.iface E ev)) :
    Calls Tryd.prog 16 #[.pointer (some ⟨B, 0, none⟩)] w fun e w' => e = .returned (.tuple #[]) ∧
      w'.heap[B]? = some (.cells #[.slice (some ⟨U, 0, none⟩) 4096 4096, .iface 30 (.pointer (some ⟨R, 0, none⟩)), .int .i64 0, .int .i64 wp, .iface E ev, .int .i64 lb, .int .i64 lr] 48 (0, 0)) ∧
      Chg (fun k => k = B) w w' ∧ w'.heap.size = w.heap.size := by
  obtain ⟨hcB, hfB⟩ := rowFacts hB
  have hw0 : (0 : Int) ≤ (wp : Int) := by omega
  have hw1 : (wp : Int) ≤ 4096 := by omega
  have hw2 : ¬ 4096 = wp := by omega
  have hme := method_read'
  go_enter Tryd.func16, Tryd.ntmps16
  go_wp2
  go_quiet (fail)
  go_wp2
  refine wp_loop_rounds 1 ?_
  rw [rounds_succ]
  go_wp2
  go_region_held3 (fun w' => (∀ j, w'.cell? ⟨B, j, none⟩ = (#[.slice (some ⟨U, 0, none⟩) 4096 4096, .iface 30 (.pointer (some ⟨R, 0, none⟩)), .int .i64 0, .int .i64 wp, errv, .int .i64 lb, .int .i64 lr] : Array Value)[j]?)) (go_keep) (first | (go_at_call 36; refine (sread_eof R s i (.slice (some ⟨U, wp, none⟩) (4096 - wp) (4096 - wp)) _ hs hi hi2 (by exact c0) (by exact c1) E ev (by exact hE)).mono ?_; rintro e w2 ⟨rfl, n2, rfl⟩))
  go_wp2
  refine bodyPost_ret (results_none rfl _ _ _) rfl ?_
  refine ⟨rfl, heap_setCell_same _ B 4 _ _ _ (heap_setCell_same (w.drewN _) B 3 _ _ (.int .i64 wp) hB), ?_, ?_⟩
  · exact (((Chg.refl (fun k => k = B) w).drewN _).setCell ⟨B, 3, none⟩ _ rfl).setCell ⟨B, 4, none⟩ _ rfl
  · simp [World.setCell]

end Go.Proofs.Qxb6615548aDoor
