import Derived.Test.Qxb6615548aDoorT1
import Derived.Test.Qxb6615548aDoorT2
import Derived.Test.Qxb6615548aDoorT4
import Derived.Test.Qxb6615548aDoorBase3
namespace Go.Proofs.Qxb6615548aDoor
open Go.RowKit
set_option linter.unusedVariables false
set_option maxRecDepth 100000

set_option maxHeartbeats 800000 in
theorem read_direct (R B U : Nat) (s : ByteArray) (i : Nat) (p : Int) (r : Nat) (lb lr : Int) (g off n cap : Nat) (cur : List Value) (k : Nat) (hk : k = min n (s.size - i)) (w : World)
    (hn : 4096 ≤ n) (hs : s.size ≤ 2097152) (hi : i < s.size) (hr : r ≤ 4096)
    (hR : w.heap[R]? = some (.cells #[.string s, .int .i64 i, .int .i64 p] 43 (0, 0)))
    (hB : w.heap[B]? = some (.cells #[.slice (some ⟨U, 0, none⟩) 4096 4096, .iface 30 (.pointer (some ⟨R, 0, none⟩)), .int .i64 r, .int .i64 r, .nilIface, .int .i64 lb, .int .i64 lr] 48 (0, 0)))
    (hg : w.heap[g]? = some (.cells cur.toArray 5 (0, 0))) (hfit : off + n ≤ cur.length) (hn2 : n ≤ 9223372036854775807) :
    Calls Tryd.prog 37 #[.pointer (some ⟨B, 0, none⟩), .slice (some ⟨g, off, none⟩) n cap] w fun e w' => e = .returned (.tuple #[.int .i64 k, .nilIface]) ∧
      w'.heap[R]? = some (.cells #[.string s, .int .i64 (i + k : Nat), .int .i64 (-1)] 43 (0, 0)) ∧
      w'.heap[g]? = some (.cells (splice cur off (bytesV ((s.data.toList.drop i).take n))).toArray 5 (0, 0)) ∧
      (∃ lb' : Int, w'.heap[B]? = some (.cells #[.slice (some ⟨U, 0, none⟩) 4096 4096, .iface 30 (.pointer (some ⟨R, 0, none⟩)), .int .i64 r, .int .i64 r, .nilIface, .int .i64 lb', .int .i64 (-1)] 48 (0, 0))) ∧
      Chg (fun k => k = R ∨ k = B ∨ k = g) w w' ∧ w'.heap.size = w.heap.size := by
  have HK : Hid (k = min n (s.size - i)) := hk
  have hk0 : 0 < k := by omega
  have hk1 : k ≤ n := by omega
  clear hk
  obtain ⟨q, rfl⟩ : ∃ q, k = q + 1 := ⟨k - 1, by omega⟩
  have hBg : B ≠ g := ne_of_types hB hg (by decide)
  have hBR : B ≠ R := ne_of_types hB hR (by decide)
  have hgR : g ≠ R := ne_of_types hg hR (by decide)
  obtain ⟨hcB, hfB⟩ := rowFacts hB
  have hn0 : ((n : Int) == 0) = false := by simp; omega
  have hn1 : (4096 : Int) ≤ (n : Int) := by omega
  have hme := method_read
  go_enter Tryd.func37, Tryd.ntmps37
  go_wp2
  go_quiet (fail)
  go_wp2_with fail
  refine (sread_some R s i p g off n cap cur (q + 1) HK.out _ hs hi (by exact hR) (by exact hg) hgR hfit).mono ?_
  rintro e w2 ⟨rfl, hR2, hg2, hc2, hz2⟩
  have hB2 := hc2.heap (w := w.drewN nq) hB (by show ¬ (B = R ∨ B = g); simp [hBR, hBg])
  clear hcB hfB
  obtain ⟨hcB2, hfB2⟩ := rowFacts hB2
  have hsz : s.data.toList.length = s.size := Array.length_toList
  obtain ⟨c, hc⟩ := byte_at ((s.data.toList.drop i).take n) q (by rw [List.length_take, List.length_drop, hsz]; have := HK.out; omega)
  have hcg : w2.cell? ⟨g, off + q, none⟩ = some (.int .u8 c.toNat) := by
    rw [(rowFacts hg2).1, List.getElem?_toArray, splice_get _ _ _ _ (by omega) (by rw [length_bytesV, List.length_take, List.length_drop, hsz]; have := HK.out; omega), hc]
  clear hc
  have hq1 : (q : Int) < (n : Int) := by omega
  have hBg' := Ne.symm hBg
  go_wp2_with fail
  generalize wrap64 (c.toNat : Int) = lb2
  have hB5 := heap_setCell_same _ B 6 _ _ (.int .i64 (-1)) (heap_setCell_same _ B 5 _ _ (.int .i64 lb2) (heap_setCell_same w2 B 4 _ _ .nilIface hB2))
  refine (readErr_any B _ _ _ _ .nilIface _ _ (Or.inl rfl) _ (by exact hB5)).mono ?_
  rintro e w6 ⟨rfl, rfl⟩
  clear hcB2 hfB2 hcg
  go_wp2
  go_ret2
  have hB6 := heap_setCell_same _ B 4 _ _ .nilIface hB5
  have ho : ∀ {W : World} {j : Nat} {v : Value} {x : Nat} {o : Option Obj}, x ≠ B → W.heap[x]? = o → (W.setCell ⟨B, j, none⟩ v).heap[x]? = o := fun hx h => (heap_setCell_other _ _ _ _ hx).trans h
  have hRB := Ne.symm hBR
  have hSB : (fun k => k = R ∨ k = B ∨ k = g) B := Or.inr (Or.inl rfl)
  have hc3 : Chg (fun k => k = R ∨ k = B ∨ k = g) w w2 := ((Chg.refl _ w).drewN nq).trans (hc2.mono fun k _ h => h.elim Or.inl fun h => Or.inr (Or.inr h))
  refine ⟨rfl, ho hRB (ho hRB (ho hRB (ho hRB hR2))), ho hBg' (ho hBg' (ho hBg' (ho hBg' hg2))), ⟨lb2, hB6⟩, ?_, ?_⟩
  · exact (((hc3.setCell ⟨B, 4, none⟩ _ hSB).setCell ⟨B, 5, none⟩ _ hSB).setCell ⟨B, 6, none⟩ _ hSB).setCell ⟨B, 4, none⟩ _ hSB
  · simpa [World.setCell] using hz2

end Go.Proofs.Qxb6615548aDoor
