import Derived.Test.Qxb6615548aDoorInv
namespace Go.Proofs.Qxb6615548aDoor
open Go.RowKit

theorem Got.undrew {w : World} {R B U : Nat} {s : ByteArray} {rem : List UInt8} {g off n : Nat} {cur : List Value} {k : Nat} {w' : World} (h : Got w.drew R B U s rem g off n cur k w') : Got w R B U s rem g off n cur k w' := by
  obtain ⟨h1, h2, h3, h4, h5, h6, h7⟩ := h
  exact ⟨h1, h2, h3, h4, h5, ⟨h6.os, h6.tape, h6.output, h6.size, h6.block⟩, h7⟩

theorem rel_more {w0 : World} {R B U : Nat} {s : ByteArray} {full : List UInt8} {gb cb : Nat} {bb : List UInt8} {nx : Nat} {vc : Value} {cks : List Ck} {rem : List UInt8} {wr : World}
    (hA : At w0 R B U s full ⟨gb, cb, bb⟩ nx vc cks rem wr) (hR : R < w0.heap.size) (hB : B < w0.heap.size) (hU : U < w0.heap.size)
    {cur : List Value} (hrow : wr.heap[gb]? = some (.cells cur.toArray 5 (0, 0))) (hcl : cur.length = cb) (hct : cur.take bb.length = bytesV bb) {k n : Nat} {w' : World} (hg : Got wr R B U s rem gb bb.length n cur k w') (hn : bb.length + n ≤ cb)
    (hless : bb.length + k < cb) :
    Rel w0 R B U s full (rem.drop k).length (.slice (some ⟨gb, 0, none⟩) (bb.length + k) cb) (.int .i64 nx) vc (.int .i64 (cat cks).length) w' := by
  obtain ⟨cur', h1, h2, h3, h4, h5, h6, h7⟩ := hA.read hR hB hU hrow hcl hct hg hn
  have kr : k ≤ rem.length := hg.2.2.1
  have hlen : (bb ++ rem.take k).length = bb.length + k := by rw [List.length_append, List.length_take]; omega
  refine ⟨⟨gb, cb, bb ++ rem.take k⟩, nx, cks, rem.drop k, ?_, rfl, rfl, rfl, ?_⟩
  · simp only [Ck.val, hlen]
  · exact ⟨by simp only [hlen]; exact hless, hA.cap, hA.capM, ⟨cur', h1, h2, by simp only [hlen]; exact h3⟩, h4, h5, h6, hg.2.2.2.2.1, hA.nx1, hA.nx0, h7, hA.blk, hA.few⟩

/-- The chunk in hand is full: it is laid among the chunks, and a new one is made. -/
theorem rel_full {w0 : World} {R B U : Nat} {s : ByteArray} {full : List UInt8} {gb cb : Nat} {bb : List UInt8} {nx : Nat} {vc : Value} {cks : List Ck} {rem : List UInt8} {wr : World}
    (hA : At w0 R B U s full ⟨gb, cb, bb⟩ nx vc cks rem wr) (hR : R < w0.heap.size) (hB : B < w0.heap.size) (hU : U < w0.heap.size)
    {cur : List Value} (hrow : wr.heap[gb]? = some (.cells cur.toArray 5 (0, 0))) (hcl : cur.length = cb) (hct : cur.take bb.length = bytesV bb) {k n : Nat} {w2 : World} (hg : Got wr R B U s rem gb bb.length n cur k w2) (hn : bb.length + n ≤ cb)
    {vc' : Value} {w3 : World} (hown : w3.ownsRow w0.heap.size 32 1 vc' (cks.length + 1) (cks.map Ck.val ++ [.slice (some ⟨gb, 0, none⟩) (bb.length + k) cb])) (hgr : (w2.alloc (.cells #[.slice (some ⟨gb, 0, none⟩) (bb.length + k) cb] 32)).grownBy w3 vc.ownBlock)
    {c : Nat} {w4 : World} (hc1 : nx ≤ c) (hc2 : c ≤ 9223372036854775807) (hnew : w4.heap[w3.heap.size]? = some (.cells (zs c).toArray 5 (0, 0))) (hc4 : Chg (fun _ => False) w3 w4) :
    Rel w0 R B U s full (rem.drop k).length (.slice (some ⟨w3.heap.size, 0, none⟩) 0 c) (.int .i64 ((nx + nx / 2 : Nat) : Int)) vc' (.int .i64 (((cat cks).length + (bb.length + k) : Nat) : Int)) w4 := by
  obtain ⟨cur', h1, h2, h3, h4, h5, h6, h7⟩ := hA.read hR hB hU hrow hcl hct hg hn
  have kr : k ≤ rem.length := hg.2.2.1
  have k0 : 0 < k := hg.1
  have hlen : (bb ++ rem.take k).length = bb.length + k := by rw [List.length_append, List.length_take]; omega
  -- from w2 to w4: no block but the chunks' own row has turned
  have hca : Chg (fun _ => False) w2 (w2.alloc (.cells #[.slice (some ⟨gb, 0, none⟩) (bb.length + k) cb] 32)) := (Chg.refl _ w2).alloc _
  have hcb := chg_of_grown hgr
  have hrowT : ∀ (g : Nat) (x : Array Value) (t : TypeId), w2.heap[g]? = some (.cells x t (0, 0)) → t ≠ 32 → ¬ (some g = vc.ownBlock) := by
    intro g x t hgx hne e
    rcases h4.2 with ⟨rfl, _⟩ | ⟨g', cap', cur', rfl, _, hh, _⟩
    · simp [Value.ownBlock] at e
    · simp [Value.ownBlock] at e
      subst e
      rw [hgx] at hh; simp at hh; exact hne hh.2
  have keep : ∀ (g : Nat) (x : Array Value) (t : TypeId), w2.heap[g]? = some (.cells x t (0, 0)) → t ≠ 32 → w4.heap[g]? = some (.cells x t (0, 0)) := fun g x t hgx hne =>
    hc4.heap (hcb.heap (hca.heap hgx (fun h => h)) (hrowT g x t hgx hne)) (fun h => h)
  have hS2 : Src w2 R B U s (rem.drop k) := hg.2.2.2.2.1
  obtain ⟨i, r, wp, p, lb, lr, buf, pend, hRr, hBr, hUr, hrest⟩ := hS2
  have hlt2 : gb < w2.heap.size := lt_of_heap h1
  have hsz : w2.heap.size < w3.heap.size := by have := hcb.size; simp at this; omega
  refine ⟨⟨w3.heap.size, c, []⟩, nx + nx / 2, cks ++ [⟨gb, cb, bb ++ rem.take k⟩], rem.drop k, rfl, rfl, ?_, rfl, ?_⟩
  · rw [cat_append, List.length_append]; simp only [hlen]
  · have hnx0 := hA.nx0
    refine ⟨by simp; omega, by simp; omega, hc2, ⟨zs c, hnew, length_zs _, by simp [bytesV]⟩, ?_, ?_, ?_, ?_, ?_, ?_, ?_, ?_, ?_⟩
    · have e1 : (cks ++ [(⟨gb, cb, bb ++ rem.take k⟩ : Ck)]).map Ck.val = cks.map Ck.val ++ [.slice (some ⟨gb, 0, none⟩) (bb.length + k) cb] := by
        simp only [List.map_append, List.map_cons, List.map_nil, Ck.val, hlen]
      have e2 : (cks ++ [(⟨gb, cb, bb ++ rem.take k⟩ : Ck)]).length = cks.length + 1 := by simp
      rw [e1, e2]
      exact owns_chg hown hc4 (fun _ _ _ h => h)
    · intro d hd
      rw [List.mem_append, List.mem_singleton] at hd
      rcases hd with hd | rfl
      · obtain ⟨⟨dc, l1, l2⟩, l3, l4⟩ := h5 d hd
        exact ⟨⟨dc, keep _ _ _ l1 (by decide), l2⟩, by show d.blk ≠ w3.heap.size; have := lt_of_heap l1; omega, l4⟩
      · refine ⟨⟨cur', keep _ _ _ h1 (by decide), by simp only [hlen]; exact h3⟩, ?_, hA.blk⟩
        show gb ≠ w3.heap.size; omega
    · rw [cat_append]; simp only [List.append_nil]; exact h6
    · exact ⟨i, r, wp, p, lb, lr, buf, pend, keep _ _ _ hRr (by decide), keep _ _ _ hBr (by decide), keep _ _ _ hUr (by decide), hrest⟩
    · show 2 * (nx + nx / 2) ≤ 3 * c; omega
    · omega
    · refine ⟨by rw [hc4.os, hcb.os, hca.os, h7.os], by rw [hc4.tape, hcb.tape, hca.tape, h7.tape], by rw [hc4.output, hcb.output, hca.output, h7.output], by have := hc4.size; have := h7.size; omega, fun j hj hnj => ?_⟩
      have hj2 : j < w2.heap.size := Nat.lt_of_lt_of_le hj h7.size
      have hja : j < (w2.alloc (.cells #[.slice (some ⟨gb, 0, none⟩) (bb.length + k) cb] 32)).heap.size := Nat.lt_of_lt_of_le hj2 hca.size
      rw [hc4.block j (Nat.lt_of_lt_of_le hja hcb.size) (fun h => h), hcb.block j hja ?_, hca.block j hj2 (fun h => h), h7.block j hj hnj]
      intro e
      rcases h4.2 with ⟨rfl, _⟩ | ⟨g', cap', cur', rfl, hb', _⟩
      · simp [Value.ownBlock] at e
      · simp [Value.ownBlock] at e; omega
    · show w0.heap.size ≤ w3.heap.size; have := h7.size; omega
    · rw [cat_append, List.length_append, List.length_append]; simp only [hlen, List.length_singleton]; have := hA.few; omega

end Go.Proofs.Qxb6615548aDoor
