import Derived.Test.Qxb6615548aDoorT9
import Derived.Test.Qxb6615548aDoorA1
import Derived.Test.Qxb6615548aDoorLeaf
namespace Go.Proofs.Qxb6615548aDoor
open Go.RowKit
set_option linter.unusedVariables false
set_option maxRecDepth 100000

/-- A text less the mark at its head. -/
def strip (T : List UInt8) : List UInt8 := if hasM T then T.drop 3 else T

theorem src_of_skipped {w : World} {R B : Nat} {s : ByteArray} {k : Nat} {w' : World} (hk : k = min 4096 s.size) (h : Skipped w R B s k (hasM s.data.toList) w') : Src w' R B (B + 1) s (strip s.data.toList) := by
  obtain ⟨buf, hR, hB, hU, hbl, hbt, _⟩ := h
  have hsz : s.data.toList.length = s.size := Array.length_toList
  have hlk : (s.data.toList.take k).length = k := by rw [List.length_take, hsz]; omega
  cases hm : hasM s.data.toList with
  | false =>
    rw [hm] at hB
    refine ⟨k, 0, k, -1, -1, -1, buf, s.data.toList.take k, hR, hB, hU, hbl, by omega, by omega, by omega, ?_, ?_⟩
    · rw [List.drop_zero, hlk, hbt]
    · simp only [strip, hm]; exact (List.take_append_drop k _).symm
  | true =>
    rw [hm] at hB
    have h3 : 3 ≤ s.size := by
      have h : (s.data.toList.take 3 == mark) = true := hm
      have := congrArg List.length (eq_of_beq h)
      rw [List.length_take, hsz] at this
      simp [mark] at this; omega
    refine ⟨k, 3, k, -1, -1, -1, buf, (s.data.toList.take k).drop 3, hR, hB, hU, hbl, by omega, by omega, by rw [List.length_drop, hlk]; omega, ?_, ?_⟩
    · rw [← drop_bytesV, ← hbt, List.length_drop, hlk, List.drop_take]
    · simp only [strip, hm, if_true]
      rw [← List.drop_append_of_le_length (by rw [hlk]; omega), List.take_append_drop]

theorem strip_len (T : List UInt8) : (strip T).length ≤ T.length := by unfold strip; split <;> simp

set_option maxHeartbeats 800000 in
theorem zz_any (s : ByteArray) (w : World) (hs : s.size ≤ 2097152) (ae : Addr) (hE : w.cell? ⟨0, 0, none⟩ = some (.iface 53 (.pointer (some ae)))) :
    Calls Tryd.prog 6 #[.string s] w fun e w' => e = .returned (.tuple #[.string ⟨(strip s.data.toList).toArray⟩, .bool (hasM s.data.toList)]) ∧ Below w.heap.size w w' := by
  have h0 : 0 < w.heap.size := by have := block_lt_of_cell hE; simpa using this
  have hsz : s.data.toList.length = s.size := Array.length_toList
  go_enter Tryd.func6, Tryd.ntmps6
  go_wp2_with fail
  refine (newReader_any s w).mono ?_
  rintro e w1 ⟨rfl, rfl⟩
  have hR1 := heap_alloc_new w (.cells #[.string s, .int .i64 0, .int .i64 (-1)] 43)
  have hc1 : Chg (fun _ => False) w (w.alloc (.cells #[.string s, .int .i64 0, .int .i64 (-1)] 43)) := (Chg.refl _ w).alloc _
  have hE1 := hc1.cell hE (fun h => h)
  have hs1 : (w.alloc (.cells #[.string s, .int .i64 0, .int .i64 (-1)] 43)).heap.size = w.heap.size + 1 := by simp
  generalize w.alloc (.cells #[.string s, .int .i64 0, .int .i64 (-1)] 43) = w1 at *
  go_wp2_with fail
  refine (skip_any w.heap.size s (min 4096 s.size) rfl w1 hs hR1 53 (.pointer (some ae)) hE1 h0).mono ?_
  rintro e w2 ⟨rfl, hsk⟩
  have hsrc := src_of_skipped rfl hsk
  obtain ⟨buf, hR2, hB2, hU2, _, _, hc2⟩ := hsk
  have hE2 := hc2.cell hE1 (by show ¬ 0 = w.heap.size; omega)
  have hl2 := lt_of_heap hU2
  have hs2 := hc2.size
  clear hR2 hB2 hU2 hR1
  have HS1 : Hid (w1.heap.size = w.heap.size + 1) := hs1
  rw [hs1] at hsrc hl2 hs2 ⊢
  clear hs1
  generalize hm : hasM s.data.toList = m at *
  have hstl := strip_len s.data.toList
  generalize hst : strip s.data.toList = st at *
  have Hm : Hid (hasM s.data.toList = m) := hm
  have Hst : Hid (strip s.data.toList = st) := hst
  clear hm hst
  go_wp2_with fail
  refine (readAll_any w.heap.size (w.heap.size + 1) (w.heap.size + 1 + 1) s st w2 hs (by omega) hsrc ae hE2 h0 (by omega) (by omega) (by omega) (by omega) (by omega)).mono ?_
  rintro e w3 ⟨g, cap, cur, rfl, hg3, hct3, hc3⟩
  have hcv := run_string_of_row (P := Tryd.prog) w3 32 9 5 5 Tryd.underlying32 Tryd.underlying5 Tryd.underlying9 g st.length cap cur hg3 st rfl hct3
  clear hct3 hstl hsz
  go_wp2_with fail
  go_ret2
  refine ⟨by rw [Hm.out, Hst.out]; rfl, ?_⟩
  have e1 : Below w.heap.size w w1 := hc1.below _ (Nat.le_refl _) (fun _ h => h.elim)
  have e2 : Below w.heap.size w1 w2 := hc2.below _ (by rw [HS1.out]; omega) (fun k h => by subst h; exact Nat.le_refl _)
  have e3 : Below w.heap.size w2 w3 := hc3.below _ (by omega) (fun k h => by omega)
  exact (e1.trans e2).trans e3

end Go.Proofs.Qxb6615548aDoor
