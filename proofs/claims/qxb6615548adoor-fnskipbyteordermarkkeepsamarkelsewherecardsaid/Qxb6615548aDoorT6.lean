import Derived.Test.Qxb6615548aDoorT2
import Derived.Test.Qxb6615548aDoorT3
import Derived.Test.Qxb6615548aDoorT4
namespace Go.Proofs.Qxb6615548aDoor
open Go.RowKit
set_option linter.unusedVariables false
set_option maxRecDepth 100000

set_option maxHeartbeats 800000 in
theorem peek_short (R B U : Nat) (s : ByteArray) (lb lr : Int) (buf : List Value) (k : Nat) (hk : k = s.size) (w : World) (h0 : 1 ≤ s.size) (h3 : s.size < 3)
    (hR : w.heap[R]? = some (.cells #[.string s, .int .i64 0, .int .i64 (-1)] 43 (0, 0)))
    (hB : w.heap[B]? = some (.cells #[.slice (some ⟨U, 0, none⟩) 4096 4096, .iface 30 (.pointer (some ⟨R, 0, none⟩)), .int .i64 0, .int .i64 0, .nilIface, .int .i64 lb, .int .i64 lr] 48 (0, 0)))
    (hU : w.heap[U]? = some (.cells buf.toArray 5 (0, 0))) (hbl : buf.length = 4096) (E : TypeId) (ev : Value) (hE : w.cell? ⟨0, 0, none⟩ = some (.iface E ev)) (hRpos : 0 < R) (hBpos : 0 < B) (hUpos : 0 < U) :
    Calls Tryd.prog 13 #[.pointer (some ⟨B, 0, none⟩), .int .i64 3] w fun e w' => e = .returned (.tuple #[.slice (some ⟨U, 0, none⟩) k 4096, .iface E ev]) ∧
      w'.heap[R]? = some (.cells #[.string s, .int .i64 k, .int .i64 (-1)] 43 (0, 0)) ∧
      w'.heap[B]? = some (.cells #[.slice (some ⟨U, 0, none⟩) 4096 4096, .iface 30 (.pointer (some ⟨R, 0, none⟩)), .int .i64 0, .int .i64 k, .nilIface, .int .i64 (-1), .int .i64 (-1)] 48 (0, 0)) ∧
      w'.heap[U]? = some (.cells (splice buf 0 (bytesV (s.data.toList.take 4096))).toArray 5 (0, 0)) ∧ Chg (fun k => k = R ∨ k = B ∨ k = U) w w' ∧ w'.heap.size = w.heap.size := by
  have HK : Hid (k = s.size) := hk
  have hk0 : 1 ≤ k := by omega
  have hk1 : k < 3 := by omega
  clear hk
  have hUR : U ≠ R := ne_of_types hU hR (by decide)
  have hBR : B ≠ R := ne_of_types hB hR (by decide)
  have hBU : B ≠ U := ne_of_types hB hU (by decide)
  obtain ⟨hcB, hfB⟩ := rowFacts hB
  go_enter Tryd.func13, Tryd.ntmps13
  go_wp2
  have hB1 := heap_setCell_same _ B 6 _ _ (.int .i64 (-1)) (heap_setCell_same w B 5 _ _ (.int .i64 (-1)) hB)
  have hR1 : ((w.setCell ⟨B, 5, none⟩ (.int .i64 (-1))).setCell ⟨B, 6, none⟩ (.int .i64 (-1))).heap[R]? = _ := (heap_setCell_other _ _ _ _ (Ne.symm hBR)).trans ((heap_setCell_other _ _ _ _ (Ne.symm hBR)).trans hR)
  have hU1 : ((w.setCell ⟨B, 5, none⟩ (.int .i64 (-1))).setCell ⟨B, 6, none⟩ (.int .i64 (-1))).heap[U]? = _ := (heap_setCell_other _ _ _ _ (Ne.symm hBU)).trans ((heap_setCell_other _ _ _ _ (Ne.symm hBU)).trans hU)
  have hc1 : Chg (fun k => k = R ∨ k = B ∨ k = U) w ((w.setCell ⟨B, 5, none⟩ (.int .i64 (-1))).setCell ⟨B, 6, none⟩ (.int .i64 (-1))) := ((Chg.refl _ w).setCell ⟨B, 5, none⟩ _ (Or.inr (Or.inl rfl))).setCell ⟨B, 6, none⟩ _ (Or.inr (Or.inl rfl))
  have hz1 : ((w.setCell ⟨B, 5, none⟩ (.int .i64 (-1))).setCell ⟨B, 6, none⟩ (.int .i64 (-1))).heap.size = w.heap.size := by simp [World.setCell]
  generalize (w.setCell ⟨B, 5, none⟩ (.int .i64 (-1))).setCell ⟨B, 6, none⟩ (.int .i64 (-1)) = w1 at *
  clear hcB hfB
  obtain ⟨hcB, hfB⟩ := rowFacts hB1
  refine wp_loop_rounds 3 ?_
  rw [rounds_succ]
  go_wp2
  go_quiet (fail)
  go_wp2_with fail
  refine (fill_some R B U s 0 (-1) 0 .nilIface (-1) (-1) buf k (by rw [HK.out]; omega) _ (by omega) (by omega) (by omega) (by exact hR1) (by exact hB1) (by exact hU1) hbl).mono ?_
  rintro e w2 ⟨rfl, hR2, hB2, hU2, hc2, hz2⟩
  simp only [Nat.zero_add, Nat.sub_zero, List.drop_zero] at hR2 hB2 hU2
  clear hcB hfB
  obtain ⟨hcB, hfB⟩ := rowFacts hB2
  have hd : decide ((k : Int) < 3) = true := by simp; omega
  have hd2 : decide ((k : Int) < 4096) = true := by simp; omega
  have hkk : (k : Int) < 3 := by omega
  have hkl : (k : Int) < 4096 := by omega
  go_wp2
  rw [rounds_succ]
  go_wp2
  go_quiet (fail)
  go_wp2_with fail
  have hc12 := (hc1.drewN _).trans hc2
  have hE2 : w2.cell? ⟨0, 0, none⟩ = some (.iface E ev) := hc12.cell hE (by show ¬ (0 = R ∨ 0 = B ∨ 0 = U); omega)
  refine (fill_eof R B U s k k .nilIface (-1) (-1) E ev _ (by omega) (by rw [HK.out]; omega) (by omega) (by omega) (by exact (rowFacts hR2).1 0) (by exact (rowFacts hR2).1 1) (by exact hB2) (by exact hE2)).mono ?_
  rintro e w3 ⟨rfl, hB3, hc3, hz3⟩
  clear hcB hfB
  obtain ⟨hcB, hfB⟩ := rowFacts hB3
  go_wp2
  rw [rounds_succ]
  go_wp2
  go_quiet (fail)
  go_wp2
  go_quiet (fail)
  go_wp2_with (go_at_call 17; refine (readErr_any B _ _ _ _ (.iface E ev) _ _ (Or.inr ⟨_, _, rfl⟩) _ (by exact hB3)).mono ?_; rintro e w4 ⟨rfl, rfl⟩)
  go_quiet (fail)
  go_wp2
  go_ret2
  have hR3 := hc3.heap (w := w2.drewN _) hR2 (Ne.symm hBR)
  have hU3 := hc3.heap (w := w2.drewN _) hU2 (Ne.symm hBU)
  refine ⟨rfl, ?_, ?_, ?_, ?_, ?_⟩
  · exact (heap_setCell_other _ _ _ _ (Ne.symm hBR)).trans hR3
  · exact heap_setCell_same (w3.drewN _) B 4 _ _ _ hB3
  · exact (heap_setCell_other _ _ _ _ (Ne.symm hBU)).trans hU3
  · exact (((((hc12.drewN _).trans (hc3.mono fun k _ h => Or.inr (Or.inl h))).drewN _).setCell ⟨B, 4, none⟩ _ (Or.inr (Or.inl rfl))).drewN _)
  · simp [World.setCell, hz3, hz2, hz1]

end Go.Proofs.Qxb6615548aDoor
