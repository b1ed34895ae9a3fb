import Derived.Test.Qxb6615548aDoorT1
import Derived.Test.Qxb6615548aDoorT2
import Derived.Test.Qxb6615548aDoorT4
import Derived.Test.Qxb6615548aDoorBase3
namespace Go.Proofs.Qxb6615548aDoor
open Go.RowKit
set_option linter.unusedVariables false
set_option maxRecDepth 100000

def Emptied (U R r : Nat) (lb lr : Int) (B : Nat) (w' : World) : Prop :=
  ∃ r' : Nat, w'.heap[B]? = some (.cells #[.slice (some ⟨U, 0, none⟩) 4096 4096, .iface 30 (.pointer (some ⟨R, 0, none⟩)), .int .i64 r', .int .i64 r', .nilIface, .int .i64 lb, .int .i64 lr] 48 (0, 0)) ∧ (r' = r ∨ r' = 0)

set_option maxHeartbeats 800000 in
theorem read_eof (R B U : Nat) (s : ByteArray) (i : Nat) (r : Nat) (lb lr : Int) (g off n cap : Nat) (w : World)
    (hn : 0 < n) (hs : s.size ≤ 2097152) (hi : s.size ≤ i) (hi2 : i ≤ 2097152)
    (c0 : w.cell? ⟨R, 0, none⟩ = some (.string s)) (c1 : w.cell? ⟨R, 1, none⟩ = some (.int .i64 i)) (E : TypeId) (ev : Value) (hE : w.cell? ⟨0, 0, none⟩ = some (.iface E ev)) (hRB : R ≠ B) (hB0 : 0 < B)
    (hB : w.heap[B]? = some (.cells #[.slice (some ⟨U, 0, none⟩) 4096 4096, .iface 30 (.pointer (some ⟨R, 0, none⟩)), .int .i64 r, .int .i64 r, .nilIface, .int .i64 lb, .int .i64 lr] 48 (0, 0)))
    (hn2 : n ≤ 9223372036854775807) :
    Calls Tryd.prog 37 #[.pointer (some ⟨B, 0, none⟩), .slice (some ⟨g, off, none⟩) n cap] w fun e w' => e = .returned (.tuple #[.int .i64 0, .iface E ev]) ∧
      Emptied U R r lb lr B w' ∧
      Chg (fun k => k = B) w w' ∧ w'.heap.size = w.heap.size := by
  obtain ⟨hcB, hfB⟩ := rowFacts hB
  have hn0 : ((n : Int) == 0) = false := by simp; omega
  have hme := method_read
  by_cases hn1 : 4096 ≤ n
  · have hn3 : (4096 : Int) ≤ (n : Int) := by omega
    go_enter Tryd.func37, Tryd.ntmps37
    go_wp2
    go_quiet (fail)
    go_wp2_with fail
    refine (sread_eof R s i _ _ hs hi hi2 (by exact c0) (by exact c1) E ev (by exact hE)).mono ?_
    rintro e w2 ⟨rfl, n2, rfl⟩
    go_wp2_with fail
    have hB5 := heap_setCell_same (w.drewN (nq + n2)) B 4 _ _ (.iface E ev) hB
    refine (readErr_any B _ _ _ _ (.iface E ev) _ _ (Or.inr ⟨_, _, rfl⟩) _ (by exact hB5)).mono ?_
    rintro e w6 ⟨rfl, rfl⟩
    clear hcB hfB
    go_wp2
    go_ret2
    refine ⟨rfl, ⟨r, heap_setCell_same _ B 4 _ _ .nilIface hB5, Or.inl rfl⟩, ?_, ?_⟩
    · exact (((Chg.refl (fun k => k = B) w).drewN _).setCell ⟨B, 4, none⟩ _ rfl).setCell ⟨B, 4, none⟩ _ rfl
    · simp [World.setCell]
  · have hn3 : (n : Int) < 4096 := by omega
    go_enter Tryd.func37, Tryd.ntmps37
    go_wp2
    go_quiet (fail)
    go_wp2_with fail
    have hB1 := heap_setCell_same _ B 3 _ _ (.int .i64 0) (heap_setCell_same (w.drewN nq) B 2 _ _ (.int .i64 0) hB)
    have hc1 : Chg (fun k => k = B) w (((w.drewN nq).setCell ⟨B, 2, none⟩ (.int .i64 0)).setCell ⟨B, 3, none⟩ (.int .i64 0)) := (((Chg.refl (fun k => k = B) w).drewN nq).setCell ⟨B, 2, none⟩ _ rfl).setCell ⟨B, 3, none⟩ _ rfl
    have hz1 : (((w.drewN nq).setCell ⟨B, 2, none⟩ (.int .i64 0)).setCell ⟨B, 3, none⟩ (.int .i64 0)).heap.size = w.heap.size := by simp [World.setCell]
    generalize ((w.drewN nq).setCell ⟨B, 2, none⟩ (.int .i64 0)).setCell ⟨B, 3, none⟩ (.int .i64 0) = w1 at *
    have c01 := hc1.cell c0 hRB
    have c11 := hc1.cell c1 hRB
    have hE1 := hc1.cell hE (by show ¬ 0 = B; omega)
    clear hcB hfB
    obtain ⟨hcB, hfB⟩ := rowFacts hB1
    have hb0 : w1.cell? ⟨B, 0, none⟩ = some (.slice (some ⟨U, 0, none⟩) 4096 4096) := hcB 0
    have hb1 : w1.cell? ⟨B, 1, none⟩ = some (.iface 30 (.pointer (some ⟨R, 0, none⟩))) := hcB 1
    go_region_held3 (fun w' => w'.cell? ⟨B, 0, none⟩ = some (.slice (some ⟨U, 0, none⟩) 4096 4096) ∧ w'.cell? ⟨B, 1, none⟩ = some (.iface 30 (.pointer (some ⟨R, 0, none⟩)))) (first | (exact ⟨hb0, hb1⟩) | (exact ⟨cell_set_ne (a := ⟨B, 4, none⟩) (by exact hb0) (Or.inr (by show (4 : Nat) ≠ 0; decide)), cell_set_ne (a := ⟨B, 4, none⟩) (by exact hb1) (Or.inr (by show (4 : Nat) ≠ 1; decide))⟩) | go_keep) (first | (go_at_call 36; refine (sread_eof R s i _ _ hs hi hi2 (by exact c01) (by exact c11) E ev (by exact hE1)).mono ?_; rintro e w2 ⟨rfl, n2, rfl⟩))
    go_wp2_with fail
    have hB5 := heap_setCell_same (w1.drewN (1 + n2)) B 4 _ _ (.iface E ev) hB1
    refine (readErr_any B _ _ _ _ (.iface E ev) _ _ (Or.inr ⟨_, _, rfl⟩) _ (by exact hB5)).mono ?_
    rintro e w6 ⟨rfl, rfl⟩
    clear hcB hfB
    go_wp2
    go_ret2
    refine ⟨rfl, ⟨0, heap_setCell_same _ B 4 _ _ .nilIface hB5, Or.inr rfl⟩, ?_, ?_⟩
    · exact ((hc1.drewN _).setCell ⟨B, 4, none⟩ _ rfl).setCell ⟨B, 4, none⟩ _ rfl
    · simp [World.setCell, hz1]

end Go.Proofs.Qxb6615548aDoor
