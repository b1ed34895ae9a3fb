import Derived.Test.Qxb6615548aDoorT2
import Derived.Test.Qxb6615548aDoorT3
import Derived.Test.Qxb6615548aDoorT4
namespace Go.Proofs.Qxb6615548aDoor
open Go.RowKit
set_option linter.unusedVariables false
set_option maxRecDepth 100000

set_option maxHeartbeats 800000 in
theorem peek_zero (R B U : Nat) (s : ByteArray) (lb lr : Int) (w : World) (h0 : s.size = 0)
    (hR : w.heap[R]? = some (.cells #[.string s, .int .i64 0, .int .i64 (-1)] 43 (0, 0)))
    (hB : w.heap[B]? = some (.cells #[.slice (some ⟨U, 0, none⟩) 4096 4096, .iface 30 (.pointer (some ⟨R, 0, none⟩)), .int .i64 0, .int .i64 0, .nilIface, .int .i64 lb, .int .i64 lr] 48 (0, 0)))
    (E : TypeId) (ev : Value) (hE : w.cell? ⟨0, 0, none⟩ = some (.iface E ev)) (hBpos : 0 < B) :
    Calls Tryd.prog 13 #[.pointer (some ⟨B, 0, none⟩), .int .i64 3] w fun e w' => e = .returned (.tuple #[.slice (some ⟨U, 0, none⟩) 0 4096, .iface E ev]) ∧
      w'.heap[B]? = some (.cells #[.slice (some ⟨U, 0, none⟩) 4096 4096, .iface 30 (.pointer (some ⟨R, 0, none⟩)), .int .i64 0, .int .i64 0, .nilIface, .int .i64 (-1), .int .i64 (-1)] 48 (0, 0)) ∧
      Chg (fun k => k = B) w w' ∧ w'.heap.size = w.heap.size := by
  have hBR : B ≠ R := ne_of_types hB hR (by decide)
  obtain ⟨hcB, hfB⟩ := rowFacts hB
  go_enter Tryd.func13, Tryd.ntmps13
  go_wp2
  have hB1 := heap_setCell_same _ B 6 _ _ (.int .i64 (-1)) (heap_setCell_same w B 5 _ _ (.int .i64 (-1)) hB)
  have hR1 : ((w.setCell ⟨B, 5, none⟩ (.int .i64 (-1))).setCell ⟨B, 6, none⟩ (.int .i64 (-1))).heap[R]? = _ := (heap_setCell_other _ _ _ _ (Ne.symm hBR)).trans ((heap_setCell_other _ _ _ _ (Ne.symm hBR)).trans hR)
  have hc1 : Chg (fun k => k = B) w ((w.setCell ⟨B, 5, none⟩ (.int .i64 (-1))).setCell ⟨B, 6, none⟩ (.int .i64 (-1))) := ((Chg.refl (fun k => k = B) w).setCell ⟨B, 5, none⟩ _ rfl).setCell ⟨B, 6, none⟩ _ rfl
  have hz1 : ((w.setCell ⟨B, 5, none⟩ (.int .i64 (-1))).setCell ⟨B, 6, none⟩ (.int .i64 (-1))).heap.size = w.heap.size := by simp [World.setCell]
  generalize (w.setCell ⟨B, 5, none⟩ (.int .i64 (-1))).setCell ⟨B, 6, none⟩ (.int .i64 (-1)) = w1 at *
  clear hcB hfB
  obtain ⟨hcB, hfB⟩ := rowFacts hB1
  refine wp_loop_rounds 2 ?_
  rw [rounds_succ]
  go_wp2
  go_quiet (fail)
  go_wp2_with fail
  have hE2 : w1.cell? ⟨0, 0, none⟩ = some (.iface E ev) := hc1.cell hE (by show ¬ (0 = B); omega)
  refine (fill_eof R B U s 0 0 .nilIface (-1) (-1) E ev _ (by omega) (by omega) (by omega) (by omega) (by exact (rowFacts hR1).1 0) (by exact (rowFacts hR1).1 1) (by exact hB1) (by exact hE2)).mono ?_
  rintro e w3 ⟨rfl, hB3, hc3, hz3⟩
  simp only [Int.ofNat_zero] at hB3
  clear hcB hfB
  obtain ⟨hcB, hfB⟩ := rowFacts hB3
  go_wp2
  rw [rounds_succ]
  go_wp2
  go_quiet (fail)
  go_wp2
  go_quiet (fail)
  go_wp2_with (go_at_call 17; refine (readErr_any B _ _ _ _ (.iface E ev) _ _ (Or.inr ⟨_, _, rfl⟩) _ (by exact hB3)).mono ?_; rintro e w4 ⟨rfl, rfl⟩)
  go_quiet (fail)
  go_wp2
  go_ret2
  refine ⟨rfl, ?_, ?_, ?_⟩
  · exact heap_setCell_same (w3.drewN _) B 4 _ _ _ hB3
  · exact (((((hc1.drewN _).trans hc3).drewN _).setCell ⟨B, 4, none⟩ _ rfl).drewN _)
  · simp [World.setCell, hz3, hz1]

end Go.Proofs.Qxb6615548aDoor
