import Derived.Test.Qxb6615548aDoorT1
namespace Go.Proofs.Qxb6615548aDoor
open Go.RowKit
set_option linter.unusedVariables false
set_option maxRecDepth 100000

theorem method_read (a : Addr) (w : World) : (method 180 30 (.pointer (some a)) "Read").run Tryd.prog w = .ok (36, .pointer (some a)) w := by kernel_rfl

set_option maxHeartbeats 400000 in
theorem fill_some (R B U : Nat) (s : ByteArray) (i : Nat) (p : Int) (wp : Nat) (errv : Value) (lb lr : Int) (buf : List Value) (k : Nat) (hk : k = min (4096 - wp) (s.size - i)) (w : World) (hs : s.size ≤ 2097152) (hi : i < s.size) (hw : wp < 4096)
    (hR : w.heap[R]? = some (.cells #[.string s, .int .i64 i, .int .i64 p] 43 (0, 0)))
    (hB : w.heap[B]? = some (.cells #[.slice (some ⟨U, 0, none⟩) 4096 4096, .iface 30 (.pointer (some ⟨R, 0, none⟩)), .int .i64 0, .int .i64 wp, errv, .int .i64 lb, .int .i64 lr] 48 (0, 0)))
    (hU : w.heap[U]? = some (.cells buf.toArray 5 (0, 0))) (hbl : buf.length = 4096) :
    Calls Tryd.prog 16 #[.pointer (some ⟨B, 0, none⟩)] w fun e w' => e = .returned (.tuple #[]) ∧
      w'.heap[R]? = some (.cells #[.string s, .int .i64 (i + k : Nat), .int .i64 (-1)] 43 (0, 0)) ∧
      w'.heap[B]? = some (.cells #[.slice (some ⟨U, 0, none⟩) 4096 4096, .iface 30 (.pointer (some ⟨R, 0, none⟩)), .int .i64 0, .int .i64 (wp + k : Nat), errv, .int .i64 lb, .int .i64 lr] 48 (0, 0)) ∧
      w'.heap[U]? = some (.cells (splice buf wp (bytesV ((s.data.toList.drop i).take (4096 - wp)))).toArray 5 (0, 0)) ∧ Chg (fun k => k = R ∨ k = B ∨ k = U) w w' ∧ w'.heap.size = w.heap.size := by
  have HK : Hid (k = min (4096 - wp) (s.size - i)) := hk
  have hk0 : 0 < k := by omega
  have hk1 : wp + k ≤ 4096 := by omega
  clear hk
  obtain ⟨hcB, hfB⟩ := rowFacts hB
  have hw0 : (0 : Int) ≤ (wp : Int) := by omega
  have hw1 : (wp : Int) ≤ 4096 := by omega
  have hw2 : ¬ 4096 = wp := by omega
  have hUR : U ≠ R := ne_of_types hU hR (by decide)
  have hBR : B ≠ R := ne_of_types hB hR (by decide)
  have hBU : B ≠ U := ne_of_types hB hU (by decide)
  have hme := method_read
  go_enter Tryd.func16, Tryd.ntmps16
  go_wp2
  go_quiet (fail)
  go_wp2
  refine wp_loop_rounds 1 ?_
  rw [rounds_succ]
  go_wp2
  go_region_held3 (fun w' => (∀ j, w'.cell? ⟨B, j, none⟩ = (#[.slice (some ⟨U, 0, none⟩) 4096 4096, .iface 30 (.pointer (some ⟨R, 0, none⟩)), .int .i64 0, .int .i64 wp, errv, .int .i64 lb, .int .i64 lr] : Array Value)[j]?)) (first | go_keep | exact hcB2) (first | (go_at_call 36; refine (sread_some R s i p U wp (4096 - wp) (4096 - wp) buf k HK.out _ hs hi (by exact hR) (by exact hU) hUR (by omega)).mono ?_; rintro e w2 ⟨rfl, hR2, hU2, hc2, hz2⟩; obtain ⟨hcB2, hfB2⟩ := rowFacts (hc2.heap hB (by simp [hBR, hBU]))))
  clear hcB hfB
  go_wp2
  refine bodyPost_ret (results_none rfl _ _ _) rfl ?_
  have hB2 := hc2.heap hB (by simp [hBR, hBU])
  refine ⟨rfl, ?_, heap_setCell_same w2 B 3 _ _ (.int .i64 (wp + k : Nat)) hB2, ?_, ?_, ?_⟩
  · rw [heap_setCell_other _ _ _ _ (Ne.symm hBR)]; exact hR2
  · rw [heap_setCell_other _ _ _ _ (Ne.symm hBU)]; exact hU2
  · exact (((Chg.refl _ w).drewN _).trans (hc2.mono fun k _ h => h.elim Or.inl fun h => Or.inr (Or.inr h))).setCell _ _ (Or.inr (Or.inl rfl))
  · simpa [World.setCell] using hz2

end Go.Proofs.Qxb6615548aDoor
