import Derived.Test.Qxb6615548aDoorT4
namespace Go.Proofs.Qxb6615548aDoor
open Go.RowKit
set_option linter.unusedVariables false
set_option maxRecDepth 100000

set_option maxHeartbeats 800000 in
theorem discard_three (B : Nat) (a0 a1 a4 : Value) (lb lr : Int) (k : Nat) (hk : 3 ≤ k) (hk2 : k ≤ 4096) (w : World)
    (hB : w.heap[B]? = some (.cells #[a0, a1, .int .i64 0, .int .i64 k, a4, .int .i64 lb, .int .i64 lr] 48 (0, 0))) :
    Calls Tryd.prog 14 #[.pointer (some ⟨B, 0, none⟩), .int .i64 3] w fun e w' => e = .returned (.tuple #[.int .i64 3, .nilIface]) ∧
      w'.heap[B]? = some (.cells #[a0, a1, .int .i64 3, .int .i64 k, a4, .int .i64 (-1), .int .i64 (-1)] 48 (0, 0)) ∧
      Chg (fun k => k = B) w w' ∧ w'.heap.size = w.heap.size := by
  obtain ⟨hcB, hfB⟩ := rowFacts hB
  go_enter Tryd.func14, Tryd.ntmps14
  go_wp2
  have hB1 := heap_setCell_same _ B 6 _ _ (.int .i64 (-1)) (heap_setCell_same w B 5 _ _ (.int .i64 (-1)) hB)
  have hc1 : Chg (fun k => k = B) w ((w.setCell ⟨B, 5, none⟩ (.int .i64 (-1))).setCell ⟨B, 6, none⟩ (.int .i64 (-1))) := ((Chg.refl (fun k => k = B) w).setCell ⟨B, 5, none⟩ _ rfl).setCell ⟨B, 6, none⟩ _ rfl
  have hz1 : ((w.setCell ⟨B, 5, none⟩ (.int .i64 (-1))).setCell ⟨B, 6, none⟩ (.int .i64 (-1))).heap.size = w.heap.size := by simp [World.setCell]
  generalize (w.setCell ⟨B, 5, none⟩ (.int .i64 (-1))).setCell ⟨B, 6, none⟩ (.int .i64 (-1)) = w1 at *
  clear hcB hfB
  obtain ⟨hcB, hfB⟩ := rowFacts hB1
  have hkk : (3 : Int) ≤ k := by omega
  have hk0 : ((k : Int) == 0) = false := by simp; omega
  refine wp_loop_rounds 1 ?_
  rw [rounds_succ]
  by_cases h3 : k = 3
  all_goals
    go_wp2_with (go_at_call 18; refine (buffered_any B _ _ _ _ _ 0 k (by omega) (by omega) _ (by exact hB1)).mono ?_; rintro e w4 ⟨rfl, n4, rfl⟩)
    go_ret2
    refine ⟨rfl, ?_, ?_, ?_⟩
    · exact heap_setCell_same (w1.drewN _) B 2 _ _ _ hB1
    · exact (hc1.drewN _).setCell ⟨B, 2, none⟩ _ rfl
    · simp [World.setCell, hz1]

end Go.Proofs.Qxb6615548aDoor
