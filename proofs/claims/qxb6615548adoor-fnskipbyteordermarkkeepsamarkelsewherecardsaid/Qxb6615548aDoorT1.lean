import Derived.Test.Qxb6615548aDoorProg
import Derived.Test.Qxb6615548aDoorBase
namespace Go.Proofs.Qxb6615548aDoor
open Go.RowKit
set_option linter.unusedVariables false

theorem Tryd.info5 : (Tryd.prog.info? 5).map (·.size) = some 1 := by kernel_rfl

set_option maxHeartbeats 400000 in
theorem sread_eof (R : Nat) (s : ByteArray) (i : Nat) (v : Value) (w : World) (hs : s.size ≤ 2097152) (hi : s.size ≤ i) (hi2 : i ≤ 2097152)
    (c0 : w.cell? ⟨R, 0, none⟩ = some (.string s)) (c1 : w.cell? ⟨R, 1, none⟩ = some (.int .i64 i)) (E : TypeId) (ev : Value)
    (hE : w.cell? ⟨0, 0, none⟩ = some (.iface E ev)) :
    Calls Tryd.prog 36 #[.pointer (some ⟨R, 0, none⟩), v] w fun e w' => e = .returned (.tuple #[.int .i64 0, .iface E ev]) ∧ ∃ n, w' = w.drewN n := by
  go_enter Tryd.func36, Tryd.ntmps36
  go_wp2
  go_quiet (fail)
  go_wp2
  go_quiet (fail)
  go_wp2
  go_ret2
  exact ⟨rfl, _, World.drewN_drewN _ _ _⟩

set_option maxHeartbeats 400000 in
theorem sread_some (R : Nat) (s : ByteArray) (i : Nat) (p : Int) (g off n cap : Nat) (cur : List Value) (k : Nat) (hk : k = min n (s.size - i)) (w : World) (hs : s.size ≤ 2097152) (hi : i < s.size)
    (hR : w.heap[R]? = some (.cells #[.string s, .int .i64 i, .int .i64 p] 43 (0, 0))) (hg : w.heap[g]? = some (.cells cur.toArray 5 (0, 0))) (hne : g ≠ R) (hfit : off + n ≤ cur.length) :
    Calls Tryd.prog 36 #[.pointer (some ⟨R, 0, none⟩), .slice (some ⟨g, off, none⟩) n cap] w fun e w' => e = .returned (.tuple #[.int .i64 k, .nilIface]) ∧
      w'.heap[R]? = some (.cells #[.string s, .int .i64 (i + k : Nat), .int .i64 (-1)] 43 (0, 0)) ∧
      w'.heap[g]? = some (.cells (splice cur off (bytesV ((s.data.toList.drop i).take n))).toArray 5 (0, 0)) ∧ Chg (fun k => k = R ∨ k = g) w w' ∧ w'.heap.size = w.heap.size := by
  subst hk
  have hi2 : i ≤ s.size := by omega
  obtain ⟨hcR, hfR⟩ := rowFacts hR
  have hmn : Hid (min n (s.size - i) = Nat.min (s.extract i s.size).size n) := by
    show _ = min _ _; rw [ByteArray.size_extract]; omega
  go_enter Tryd.func36, Tryd.ntmps36
  go_wp2
  go_quiet (fail)
  go_wp2
  have hR1 : ((w.drewN nq).setCell ⟨R, 2, none⟩ (.int .i64 (-1))).heap[R]? = some (.cells #[.string s, .int .i64 i, .int .i64 (-1)] 43 (0, 0)) := heap_setCell_same (w.drewN nq) R 2 _ _ _ hR
  have hg1 : ((w.drewN nq).setCell ⟨R, 2, none⟩ (.int .i64 (-1))).heap[g]? = some (.cells cur.toArray 5 (0, 0)) := (heap_setCell_other _ _ _ _ hne).trans hg
  have hc1 : Chg (fun k => k = R ∨ k = g) w ((w.drewN nq).setCell ⟨R, 2, none⟩ (.int .i64 (-1))) := ((Chg.refl _ w).drewN nq).setCell _ _ (Or.inl rfl)
  have hz1 : ((w.drewN nq).setCell ⟨R, 2, none⟩ (.int .i64 (-1))).heap.size = w.heap.size := by simp [World.setCell]
  generalize (w.drewN nq).setCell ⟨R, 2, none⟩ (.int .i64 (-1)) = w1 at *
  obtain ⟨hcR1, hfR1⟩ := rowFacts hR1
  clear hcR hfR
  go_region_held3 (fun w' => (∀ j, w'.cell? ⟨R, j, none⟩ = (#[.string s, .int .i64 i, .int .i64 (-1)] : Array Value)[j]?)) (first | go_keep | exact hcR2) ((refine step_copy_string (by rfl) (.tmp 20) (.tmp 29) 32 9 (by rfl) 5 Tryd.underlying32 Tryd.info5 g off n cap (by rfl) (s.extract i s.size) (by rfl) cur 5 hg1 (min n (s.size - i)) hmn.out (by omega) ?_; intro w2 hg2 hc2 hz2; obtain ⟨hcR2, hfR2⟩ := rowFacts (hc2.heap hR1 (Ne.symm hne))))
  go_wp2
  go_ret2
  have hR2 := hc2.heap hR1 (Ne.symm hne)
  have hR3 := heap_setCell_same w2 R 1 _ _ (.int .i64 (i + min n (s.size - i) : Nat)) hR2
  have hc3 : Chg (fun k => k = R ∨ k = g) w w2 := hc1.trans (((Chg.refl _ _).drew).trans (hc2.mono fun k _ hk => Or.inr hk))
  refine ⟨rfl, hR3, ?_, hc3.setCell _ _ (Or.inl rfl), ?_⟩
  · rw [heap_setCell_other _ _ _ _ hne, hg2]
    rw [take_extract]
  · simp [World.setCell, hz2, hz1]

end Go.Proofs.Qxb6615548aDoor
