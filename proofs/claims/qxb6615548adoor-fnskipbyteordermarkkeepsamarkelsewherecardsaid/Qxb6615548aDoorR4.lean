import Derived.Test.Qxb6615548aDoorT1
import Derived.Test.Qxb6615548aDoorT2
import Derived.Test.Qxb6615548aDoorT4
import Derived.Test.Qxb6615548aDoorBase3
namespace Go.Proofs.Qxb6615548aDoor
open Go.RowKit
set_option linter.unusedVariables false
set_option maxRecDepth 100000

set_option maxHeartbeats 1600000 in
theorem read_fill (R B U : Nat) (s : ByteArray) (i : Nat) (p : Int) (r0 : Nat) (lb lr : Int) (buf : List Value) (g off n cap : Nat) (cur : List Value) (wp : Nat) (hwp : wp = min 4096 (s.size - i)) (k : Nat) (hk : k = min n wp) (w : World)
    (hn : 0 < n) (hn1 : n < 4096) (hs : s.size ≤ 2097152) (hi : i < s.size)
    (hR : w.heap[R]? = some (.cells #[.string s, .int .i64 i, .int .i64 p] 43 (0, 0)))
    (hB : w.heap[B]? = some (.cells #[.slice (some ⟨U, 0, none⟩) 4096 4096, .iface 30 (.pointer (some ⟨R, 0, none⟩)), .int .i64 r0, .int .i64 r0, .nilIface, .int .i64 lb, .int .i64 lr] 48 (0, 0)))
    (hU : w.heap[U]? = some (.cells buf.toArray 5 (0, 0))) (hbl : buf.length = 4096)
    (hg : w.heap[g]? = some (.cells cur.toArray 5 (0, 0))) (hfit : off + n ≤ cur.length) (hgU : g ≠ U) :
    Calls Tryd.prog 37 #[.pointer (some ⟨B, 0, none⟩), .slice (some ⟨g, off, none⟩) n cap] w fun e w' => e = .returned (.tuple #[.int .i64 k, .nilIface]) ∧
      w'.heap[R]? = some (.cells #[.string s, .int .i64 (i + wp : Nat), .int .i64 (-1)] 43 (0, 0)) ∧
      w'.heap[g]? = some (.cells (splice cur off (bytesV ((s.data.toList.drop i).take k))).toArray 5 (0, 0)) ∧
      (∃ lb' : Int, w'.heap[B]? = some (.cells #[.slice (some ⟨U, 0, none⟩) 4096 4096, .iface 30 (.pointer (some ⟨R, 0, none⟩)), .int .i64 k, .int .i64 wp, .nilIface, .int .i64 lb', .int .i64 (-1)] 48 (0, 0))) ∧
      w'.heap[U]? = some (.cells (splice buf 0 (bytesV ((s.data.toList.drop i).take 4096))).toArray 5 (0, 0)) ∧
      Chg (fun k => k = R ∨ k = B ∨ k = U ∨ k = g) w w' ∧ w'.heap.size = w.heap.size := by
  have HW : Hid (wp = min 4096 (s.size - i)) := hwp
  have HK : Hid (k = min n wp) := hk
  have hw0 : 0 < wp := by omega
  have hw1 : wp ≤ 4096 := by omega
  have hk0 : 0 < k := by omega
  have hk1 : k ≤ n := by omega
  have hk2 : k ≤ wp := by omega
  clear hk hwp
  have hsz : s.data.toList.length = s.size := Array.length_toList
  have hTl : ((s.data.toList.drop i).take 4096).length = wp := by rw [List.length_take, List.length_drop, hsz]; have := HW.out; omega
  have hBg : B ≠ g := ne_of_types hB hg (by decide)
  have hBR : B ≠ R := ne_of_types hB hR (by decide)
  have hgR : g ≠ R := ne_of_types hg hR (by decide)
  have hUR : U ≠ R := ne_of_types hU hR (by decide)
  have hBU : B ≠ U := ne_of_types hB hU (by decide)
  obtain ⟨hcB, hfB⟩ := rowFacts hB
  have hn0 : ((n : Int) == 0) = false := by simp; omega
  have hn3 : (n : Int) < 4096 := by omega
  have hme := method_read
  go_enter Tryd.func37, Tryd.ntmps37
  go_wp2
  go_quiet (fail)
  go_wp2_with fail
  have hB1 := heap_setCell_same _ B 3 _ _ (.int .i64 0) (heap_setCell_same (w.drewN nq) B 2 _ _ (.int .i64 0) hB)
  have hc1 : Chg (fun k => k = B) w (((w.drewN nq).setCell ⟨B, 2, none⟩ (.int .i64 0)).setCell ⟨B, 3, none⟩ (.int .i64 0)) := (((Chg.refl (fun k => k = B) w).drewN nq).setCell ⟨B, 2, none⟩ _ rfl).setCell ⟨B, 3, none⟩ _ rfl
  have hz1 : (((w.drewN nq).setCell ⟨B, 2, none⟩ (.int .i64 0)).setCell ⟨B, 3, none⟩ (.int .i64 0)).heap.size = w.heap.size := by simp [World.setCell]
  generalize ((w.drewN nq).setCell ⟨B, 2, none⟩ (.int .i64 0)).setCell ⟨B, 3, none⟩ (.int .i64 0) = w1 at *
  have hR1 := hc1.heap hR (Ne.symm hBR)
  have hU1 := hc1.heap hU (Ne.symm hBU)
  have hg1 := hc1.heap hg (Ne.symm hBg)
  clear hcB hfB
  obtain ⟨hcB, hfB⟩ := rowFacts hB1
  have hb0 : w1.cell? ⟨B, 0, none⟩ = some (.slice (some ⟨U, 0, none⟩) 4096 4096) := hcB 0
  have hb1 : w1.cell? ⟨B, 1, none⟩ = some (.iface 30 (.pointer (some ⟨R, 0, none⟩))) := hcB 1
  go_region_held3 (fun w' => w'.cell? ⟨B, 0, none⟩ = some (.slice (some ⟨U, 0, none⟩) 4096 4096) ∧ w'.cell? ⟨B, 1, none⟩ = some (.iface 30 (.pointer (some ⟨R, 0, none⟩)))) (first | (exact ⟨hb0, hb1⟩) | (exact ⟨hb02, hb12⟩) | (exact ⟨cell_set_ne (a := ⟨B, 4, none⟩) (by exact hb02) (Or.inr (by show (4 : Nat) ≠ 0; decide)), cell_set_ne (a := ⟨B, 4, none⟩) (by exact hb12) (Or.inr (by show (4 : Nat) ≠ 1; decide))⟩) | go_keep) (first | (go_at_call 36; refine (sread_some R s i p U 0 4096 4096 buf wp HW.out _ hs hi (by exact hR1) (by exact hU1) hUR (by omega)).mono ?_; rintro e w2 ⟨rfl, hR2, hU2, hc2, hz2⟩; have hB2 := hc2.heap (by exact hB1) (by show ¬ (B = R ∨ B = U); simp [hBR, hBU]); obtain ⟨hcB2, hf2⟩ := rowFacts hB2; have hb02 := hcB2 0; have hb12 := hcB2 1))
  go_wp2_with fail
  clear hcB2 hf2 hb02 hb12 hb0 hb1 hcB hfB hn0 hn3
  have hB3 := heap_setCell_same _ B 3 _ _ (.int .i64 wp) (heap_setCell_same w2 B 4 _ _ .nilIface hB2)
  have ho : ∀ {W : World} {j : Nat} {v : Value} {x : Nat} {o : Option Obj}, x ≠ B → W.heap[x]? = o → (W.setCell ⟨B, j, none⟩ v).heap[x]? = o := fun hx h => (heap_setCell_other _ _ _ _ hx).trans h
  have hg2 := hc2.heap (by exact hg1) (by show ¬ (g = R ∨ g = U); simp [hgR, hgU])
  have hR3 : ((w2.setCell ⟨B, 4, none⟩ .nilIface).setCell ⟨B, 3, none⟩ (.int .i64 wp)).heap[R]? = _ := ho (Ne.symm hBR) (ho (Ne.symm hBR) hR2)
  have hU3 : ((w2.setCell ⟨B, 4, none⟩ .nilIface).setCell ⟨B, 3, none⟩ (.int .i64 wp)).heap[U]? = _ := ho (Ne.symm hBU) (ho (Ne.symm hBU) hU2)
  have hg3 : ((w2.setCell ⟨B, 4, none⟩ .nilIface).setCell ⟨B, 3, none⟩ (.int .i64 wp)).heap[g]? = _ := ho (Ne.symm hBg) (ho (Ne.symm hBg) hg2)
  have hSB : (fun k => k = R ∨ k = B ∨ k = U ∨ k = g) B := Or.inr (Or.inl rfl)
  have hc12 : Chg (fun k => k = R ∨ k = B ∨ k = U ∨ k = g) w w2 := ((hc1.mono fun k _ h => Or.inr (Or.inl h)).drew).trans (hc2.mono fun k _ h => h.elim Or.inl fun h => Or.inr (Or.inr (Or.inl h)))
  have hc3 := (hc12.setCell ⟨B, 4, none⟩ .nilIface hSB).setCell ⟨B, 3, none⟩ (.int .i64 wp) hSB
  have hz3 : ((w2.setCell ⟨B, 4, none⟩ .nilIface).setCell ⟨B, 3, none⟩ (.int .i64 wp)).heap.size = w.heap.size := by simpa [World.setCell, hz1] using hz2
  generalize (w2.setCell ⟨B, 4, none⟩ .nilIface).setCell ⟨B, 3, none⟩ (.int .i64 wp) = w3 at *
  have hbl2 : (splice buf 0 (bytesV ((s.data.toList.drop i).take 4096))).length = 4096 := by rw [length_splice, hbl]; rw [length_bytesV, hTl]; omega
  have Hpk : Hid (((splice buf 0 (bytesV ((s.data.toList.drop i).take 4096))).drop 0).take k = bytesV ((s.data.toList.drop i).take k)) := by
    show _ = _
    rw [List.drop_zero, take_splice _ _ _ (by rw [length_bytesV, hTl]; omega), take_bytesV, List.take_take]
    congr 2; omega
  obtain ⟨q, rfl⟩ : ∃ q, k = q + 1 := ⟨k - 1, by omega⟩
  obtain ⟨c, hcq⟩ : ∃ c : UInt8, (splice buf 0 (bytesV ((s.data.toList.drop i).take 4096)))[q]? = some (.int .u8 c.toNat) := by
    obtain ⟨c, hc⟩ := byte_at ((s.data.toList.drop i).take 4096) q (by omega)
    refine ⟨c, ?_⟩
    have := splice_get buf (bytesV ((s.data.toList.drop i).take 4096)) 0 q (by omega) (by rw [length_bytesV, hTl]; omega)
    rw [Nat.zero_add] at this
    rw [this, hc]
  generalize hbf : splice buf 0 (bytesV ((s.data.toList.drop i).take 4096)) = bf at *
  have HBF : Hid (splice buf 0 (bytesV ((s.data.toList.drop i).take 4096)) = bf) := hbf
  clear hbf
  have Hone : Hid (∀ v ∈ (bf.drop 0).take (q + 1), v.oneCell' = true) := by
    show ∀ _ ∈ _, _
    rw [Hpk.out]; exact oneCell_bytesV _
  have Hkm : Hid (q + 1 = min wp n) := by have := HK.out; show _ = _; omega
  have Hcq : Hid (bf[q]? = some (.int .u8 c.toNat)) := hcq
  have HTl : Hid ((List.take 4096 (List.drop i s.data.toList)).length = wp) := hTl
  clear hcq hc2 hc1 hR2 hU2 hg2 hz2 hz1 hB2 ho hTl hR1 hU1 hg1 hB1 hme hsz
  obtain ⟨hcB, hfB⟩ := rowFacts hB3
  have hr1 : (0 : Int) ≤ (wp : Int) := by omega
  have hr2 : (wp : Int) ≤ 4096 := by omega
  go_region_held3 (fun w' => (∀ j, w'.cell? ⟨B, j, none⟩ = (#[.slice (some ⟨U, 0, none⟩) 4096 4096, .iface 30 (.pointer (some ⟨R, 0, none⟩)), .int .i64 0, .int .i64 wp, .nilIface, .int .i64 lb, .int .i64 lr] : Array Value)[j]?)) (first | go_keep | exact hcB4) ((refine step_copy_slice (by rfl) (.tmp 109) (.tmp 122) 32 32 (by rfl) 5 Tryd.underlying32 Tryd.info5 g off n cap (by rfl) U 0 wp 4096 (by rfl) cur 5 (by exact hg3) bf 5 (by exact hU3) (q + 1) Hkm.out (by omega) (by omega) Hone.out ?_; intro w4 hg4 hc4 hz4; obtain ⟨hcB4, hfB4⟩ := rowFacts (hc4.heap (by exact hB3) hBg)))
  clear hcB hfB
  go_wp2
  clear hcB4 hfB4
  have hB4 := hc4.heap (by exact hB3) hBg
  have hU4 := hc4.heap (by exact hU3) (Ne.symm hgU)
  have hR4 := hc4.heap (by exact hR3) (Ne.symm hgR)
  have ho : ∀ {W : World} {j : Nat} {v : Value} {x : Nat} {o : Option Obj}, x ≠ B → W.heap[x]? = o → (W.setCell ⟨B, j, none⟩ v).heap[x]? = o := fun hx h => (heap_setCell_other _ _ _ _ hx).trans h
  have hB5 := heap_setCell_same w4 B 2 _ _ (.int .i64 ((q : Int) + 1)) hB4
  have hU5 : (w4.setCell ⟨B, 2, none⟩ (.int .i64 ((q : Int) + 1))).heap[U]? = _ := ho (Ne.symm hBU) hU4
  have hR5 : (w4.setCell ⟨B, 2, none⟩ (.int .i64 ((q : Int) + 1))).heap[R]? = _ := ho (Ne.symm hBR) hR4
  have hg5 : (w4.setCell ⟨B, 2, none⟩ (.int .i64 ((q : Int) + 1))).heap[g]? = _ := ho (Ne.symm hBg) hg4
  have hc5 := (hc3.drew.trans (hc4.mono fun k _ h => Or.inr (Or.inr (Or.inr h)))).setCell ⟨B, 2, none⟩ (.int .i64 ((q : Int) + 1)) (Or.inr (Or.inl rfl))
  have hz5 : (w4.setCell ⟨B, 2, none⟩ (.int .i64 ((q : Int) + 1))).heap.size = w.heap.size := by simpa [World.setCell, hz3] using hz4
  generalize w4.setCell ⟨B, 2, none⟩ (.int .i64 ((q : Int) + 1)) = w5 at *
  obtain ⟨hcB5, hfB5⟩ := rowFacts hB5
  have hcU5 : w5.cell? ⟨U, q, none⟩ = some (.int .u8 c.toNat) := by rw [(rowFacts hU5).1, List.getElem?_toArray, Hcq.out]
  have hwq : IntKind.i64.wrap ((q : Int) + 1 - 1) = q := by rw [IntKind.wrap_i64]; omega
  have hwq2 : IntKind.i64.wrap (q : Int) = q := by rw [IntKind.wrap_i64]; omega
  have hq0 : (0 : Int) ≤ (q : Int) := by omega
  have hq1 : (q : Int) < 4096 := by omega
  have hq2 : q < 4096 := by omega
  have hb0 : w5.cell? ⟨B, 0, none⟩ = some (.slice (some ⟨U, 0, none⟩) 4096 4096) := hcB5 0
  have hb2 : w5.cell? ⟨B, 2, none⟩ = some (.int .i64 ((q : Int) + 1)) := hcB5 2
  clear hz4 hc4 hg4 hB4 hU4 hR4 hU3 hR3 hg3 hB3 ho hc12
  go_region_held3 (fun w' => w'.cell? ⟨B, 0, none⟩ = some (.slice (some ⟨U, 0, none⟩) 4096 4096) ∧ w'.cell? ⟨B, 2, none⟩ = some (.int .i64 ((q : Int) + 1)) ∧ w'.cell? ⟨U, q, none⟩ = some (.int .u8 c.toNat)) (first | (exact ⟨cell_set_ne (a := ⟨B, 5, none⟩) hb0 (Or.inr (by show (5 : Nat) ≠ 0; decide)), cell_set_ne (a := ⟨B, 5, none⟩) hb2 (Or.inr (by show (5 : Nat) ≠ 2; decide)), cell_set_ne (a := ⟨B, 5, none⟩) hcU5 (Or.inl hBU)⟩) | (exact ⟨hb0, hb2, hcU5⟩) | go_keep) (fail)
  clear hwq hwq2 hq0 hq1 hq2 hr1 hr2 hcU5 hw0 hw1
  generalize IntKind.i64.wrap (c.toNat : Int) = lb2
  go_wp2
  go_ret2
  have ho : ∀ {W : World} {j : Nat} {v : Value} {x : Nat} {o : Option Obj}, x ≠ B → W.heap[x]? = o → (W.setCell ⟨B, j, none⟩ v).heap[x]? = o := fun hx h => (heap_setCell_other _ _ _ _ hx).trans h
  refine ⟨rfl, ho (Ne.symm hBR) (ho (Ne.symm hBR) hR5), ?_, ⟨lb2, ?_⟩, ho (Ne.symm hBU) (ho (Ne.symm hBU) (by rw [HBF.out]; exact hU5)), ?_, ?_⟩
  · refine ho (Ne.symm hBg) (ho (Ne.symm hBg) ?_)
    rw [hg5, Hpk.out]
  · exact heap_setCell_same _ B 6 _ _ (.int .i64 (-1)) (heap_setCell_same w5 B 5 _ _ (.int .i64 lb2) hB5)
  · exact ((hc5.setCell ⟨B, 5, none⟩ _ (Or.inr (Or.inl rfl))).setCell ⟨B, 6, none⟩ _ (Or.inr (Or.inl rfl))).drew
  · simpa [World.setCell] using hz5

end Go.Proofs.Qxb6615548aDoor
