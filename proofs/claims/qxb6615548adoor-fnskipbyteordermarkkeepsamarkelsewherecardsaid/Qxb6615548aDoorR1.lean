import Derived.Test.Qxb6615548aDoorT1
import Derived.Test.Qxb6615548aDoorT4
import Derived.Test.Qxb6615548aDoorBase2
namespace Go.Proofs.Qxb6615548aDoor
open Go.RowKit
set_option linter.unusedVariables false
set_option maxRecDepth 100000

set_option maxHeartbeats 800000 in
theorem read_held (R B U : Nat) (s : ByteArray) (r wp : Nat) (lb lr : Int) (buf : List Value) (pend : List UInt8) (g off n cap : Nat) (cur : List Value) (k : Nat) (hk : k = min n pend.length) (w : World)
    (hn : 0 < n) (hp : 0 < pend.length)
    (hB : w.heap[B]? = some (.cells #[.slice (some ⟨U, 0, none⟩) 4096 4096, .iface 30 (.pointer (some ⟨R, 0, none⟩)), .int .i64 r, .int .i64 wp, .nilIface, .int .i64 lb, .int .i64 lr] 48 (0, 0)))
    (hU : w.heap[U]? = some (.cells buf.toArray 5 (0, 0))) (hbl : buf.length = 4096) (hw : wp ≤ 4096) (hr : r + pend.length = wp) (hpd : (buf.drop r).take pend.length = bytesV pend)
    (hg : w.heap[g]? = some (.cells cur.toArray 5 (0, 0))) (hfit : off + n ≤ cur.length) (hgU : g ≠ U) (hn2 : n ≤ 9223372036854775807) :
    Calls Tryd.prog 37 #[.pointer (some ⟨B, 0, none⟩), .slice (some ⟨g, off, none⟩) n cap] w fun e w' => e = .returned (.tuple #[.int .i64 k, .nilIface]) ∧
      w'.heap[g]? = some (.cells (splice cur off (bytesV (pend.take k))).toArray 5 (0, 0)) ∧
      (∃ lb' : Int, w'.heap[B]? = some (.cells #[.slice (some ⟨U, 0, none⟩) 4096 4096, .iface 30 (.pointer (some ⟨R, 0, none⟩)), .int .i64 (r + k : Nat), .int .i64 wp, .nilIface, .int .i64 lb', .int .i64 (-1)] 48 (0, 0))) ∧
      Chg (fun k => k = B ∨ k = g) w w' ∧ w'.heap.size = w.heap.size := by
  have HK : Hid (k = min n pend.length) := hk
  have hk0 : 0 < k := by omega
  have hk1 : k ≤ n := by omega
  have hk2 : k ≤ pend.length := by omega
  clear hk
  have hBg : B ≠ g := ne_of_types hB hg (by decide)
  have hBU : B ≠ U := ne_of_types hB hU (by decide)
  obtain ⟨hcB, hfB⟩ := rowFacts hB
  have hn0 : ((n : Int) == 0) = false := by simp; omega
  have hrw : ((r : Int) == (wp : Int)) = false := by simp; omega
  have hr0 : (0 : Int) ≤ (r : Int) := by omega
  have hr1 : (r : Int) ≤ (wp : Int) := by omega
  have hr2 : (wp : Int) ≤ 4096 := by omega
  have hr3 : ¬ 4096 = r := by omega
  have Hkm : Hid (k = min (wp - r) n) := by have := HK.out; show _ = _; omega
  have Hpk : Hid ((buf.drop r).take k = bytesV (pend.take k)) := by
    show _ = _
    rw [← take_bytesV, ← hpd, List.take_take, Nat.min_eq_left hk2]
  have Hone : Hid (∀ v ∈ (buf.drop r).take k, v.oneCell' = true) := by
    show ∀ _ ∈ _, _
    rw [Hpk.out]; exact oneCell_bytesV _
  go_enter Tryd.func37, Tryd.ntmps37
  go_wp2
  go_quiet (fail)
  go_wp2
  go_region_held3 (fun w' => (∀ j, w'.cell? ⟨B, j, none⟩ = (#[.slice (some ⟨U, 0, none⟩) 4096 4096, .iface 30 (.pointer (some ⟨R, 0, none⟩)), .int .i64 r, .int .i64 wp, .nilIface, .int .i64 lb, .int .i64 lr] : Array Value)[j]?)) (first | go_keep | exact hcB2) ((refine step_copy_slice (by rfl) (.tmp 109) (.tmp 122) 32 32 (by rfl) 5 Tryd.underlying32 Tryd.info5 g off n cap (by rfl) U r (wp - r) (4096 - r) (by rfl) cur 5 (by exact hg) buf 5 (by exact hU) k Hkm.out (by omega) (by omega) Hone.out ?_; intro w2 hg2 hc2 hz2; obtain ⟨hcB2, hfB2⟩ := rowFacts (hc2.heap (by exact hB) hBg)))
  clear hcB hfB
  go_wp2
  obtain ⟨q, hq⟩ : ∃ q : Nat, r + k = q + 1 := ⟨r + k - 1, by omega⟩
  obtain ⟨c, hc⟩ : ∃ c : UInt8, buf[q]? = some (.int .u8 c.toNat) := by
    have h1 : ((buf.drop r).take pend.length)[k - 1]? = (bytesV pend)[k - 1]? := by rw [hpd]
    rw [List.getElem?_take, if_pos (by omega), List.getElem?_drop, getElem?_bytesV] at h1
    rw [show q = r + (k - 1) from by omega, h1, List.getElem?_eq_getElem (show k - 1 < pend.length by omega)]
    exact ⟨_, rfl⟩
  have hqi : ((r : Int) + (k : Int)) = (q : Int) + 1 := by omega
  have hB2 := hc2.heap (w := w.drewN (nq + 1)) hB hBg
  have hU2 := hc2.heap (w := w.drewN (nq + 1)) hU (Ne.symm hgU)
  have hB3 := heap_setCell_same w2 B 2 _ _ (.int .i64 ((q : Int) + 1)) hB2
  have hU3 : (w2.setCell ⟨B, 2, none⟩ (.int .i64 ((q : Int) + 1))).heap[U]? = _ := (heap_setCell_other _ _ _ _ (Ne.symm hBU)).trans hU2
  have hg3 : (w2.setCell ⟨B, 2, none⟩ (.int .i64 ((q : Int) + 1))).heap[g]? = _ := (heap_setCell_other _ _ _ _ (Ne.symm hBg)).trans hg2
  have hc3 : Chg (fun k => k = B ∨ k = g) w (w2.setCell ⟨B, 2, none⟩ (.int .i64 ((q : Int) + 1))) := (((Chg.refl _ w).drewN (nq + 1)).trans (hc2.mono fun k _ h => Or.inr h)).setCell ⟨B, 2, none⟩ _ (Or.inl rfl)
  have hz3 : (w2.setCell ⟨B, 2, none⟩ (.int .i64 ((q : Int) + 1))).heap.size = w.heap.size := by simpa [World.setCell] using hz2
  rw [hqi]
  generalize w2.setCell ⟨B, 2, none⟩ (.int .i64 ((q : Int) + 1)) = w3 at *
  obtain ⟨hcB3, hfB3⟩ := rowFacts hB3
  have hcU3 : w3.cell? ⟨U, q, none⟩ = some (.int .u8 c.toNat) := by rw [(rowFacts hU3).1, List.getElem?_toArray, hc]
  have hwq : IntKind.i64.wrap ((q : Int) + 1 - 1) = q := by rw [IntKind.wrap_i64]; omega
  have hwq2 : IntKind.i64.wrap (q : Int) = q := by rw [IntKind.wrap_i64]; omega
  have hq0 : (0 : Int) ≤ (q : Int) := by omega
  have hq1 : (q : Int) < 4096 := by omega
  have hq2 : q < 4096 := by omega
  have Hq : Hid (r + k = q + 1) := hq
  clear hcB2 hfB2 hc hqi hq
  have hb0 : w3.cell? ⟨B, 0, none⟩ = some (.slice (some ⟨U, 0, none⟩) 4096 4096) := hcB3 0
  have hb2 : w3.cell? ⟨B, 2, none⟩ = some (.int .i64 ((q : Int) + 1)) := hcB3 2
  have hUB := Ne.symm hBU
  go_region_held3 (fun w' => w'.cell? ⟨B, 0, none⟩ = some (.slice (some ⟨U, 0, none⟩) 4096 4096) ∧ w'.cell? ⟨B, 2, none⟩ = some (.int .i64 ((q : Int) + 1)) ∧ w'.cell? ⟨U, q, none⟩ = some (.int .u8 c.toNat)) (first | (exact ⟨cell_set_ne (a := ⟨B, 5, none⟩) hb0 (Or.inr (by show (5 : Nat) ≠ 0; decide)), cell_set_ne (a := ⟨B, 5, none⟩) hb2 (Or.inr (by show (5 : Nat) ≠ 2; decide)), cell_set_ne (a := ⟨B, 5, none⟩) hcU3 (Or.inl hBU)⟩) | (exact ⟨hb0, hb2, hcU3⟩) | go_keep) (fail)
  clear hwq hwq2 hq0 hq1 hq2 hr0 hr1 hr2 hr3 hcU3 hn0 hrw
  generalize IntKind.i64.wrap (c.toNat : Int) = lb2
  go_wp2
  go_ret2
  refine ⟨rfl, ?_, ⟨lb2, ?_⟩, ?_, ?_⟩
  · refine (heap_setCell_other _ _ _ _ (Ne.symm hBg)).trans ((heap_setCell_other _ _ _ _ (Ne.symm hBg)).trans ?_)
    rw [hg3, Hpk.out]
  · rw [show ((r + k : Nat) : Int) = (q : Int) + 1 from by have := Hq.out; omega]
    exact heap_setCell_same _ B 6 _ _ (.int .i64 (-1)) (heap_setCell_same w3 B 5 _ _ (.int .i64 lb2) hB3)
  · exact ((hc3.setCell ⟨B, 5, none⟩ _ (Or.inl rfl)).setCell ⟨B, 6, none⟩ _ (Or.inl rfl)).drew
  · simpa [World.setCell] using hz3

end Go.Proofs.Qxb6615548aDoor
