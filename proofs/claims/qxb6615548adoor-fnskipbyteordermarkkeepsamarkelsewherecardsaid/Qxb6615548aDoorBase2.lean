import Derived.Test.Qxb6615548aDoorBase
namespace Go.Proofs.Qxb6615548aDoor
open Go.RowKit

/-- copy(dst, src), both slices in rows that are known whole, one step of a region that draws its order. -/
theorem step_copy_slice {P : Program} {ops : Array Oper} {o : Oper} {a : Act} {w : World} {K : Act → World → Prop} {Q : Exit → Act → World → Prop} {E : Prop} (hgd : o.guard = none) (d s : Operand) (dT sT : TypeId)
    (ho : o.op = .call { callee := .builtin .copy, args := #[d, s], argTypes := #[dT, sT] }) (elem : TypeId) (hu : P.underlying dT = some (.slice elem)) (hsz : (P.info? elem).map (·.size) = some 1)
    (g off dLen dCap : Nat) (hd : a.eval d = .slice (some ⟨g, off, none⟩) dLen dCap) (u uo sLen sCap : Nat) (hs : a.eval s = .slice (some ⟨u, uo, none⟩) sLen sCap)
    (cur : List Value) (t : TypeId) (hg : w.heap[g]? = some (.cells cur.toArray t (0, 0))) (src : List Value) (tu : TypeId) (hu' : w.heap[u]? = some (.cells src.toArray tu (0, 0)))
    (m : Nat) (hm : m = min sLen dLen) (hfit : off + m ≤ cur.length) (hin : uo + m ≤ src.length) (h1 : ∀ v ∈ (src.drop uo).take m, v.oneCell' = true)
    (h : ∀ w', w'.heap[g]? = some (.cells (splice cur off ((src.drop uo).take m)).toArray t (0, 0)) → Chg (fun k => k = g) w w' → w'.heap.size = w.heap.size → K (a.put o.dst (.int .i64 m)) w') :
    if Region.wanted o (yielded ops a.tmps) = true then Oper.wp P o a w K Q else E := by
  have hw : Region.wanted o (yielded ops a.tmps) = true := by simp [Region.wanted, hgd]
  rw [if_pos hw]
  have hlen : ((src.drop uo).take m).length = m := by rw [List.length_take, List.length_drop]; omega
  have hrun := run_copy_row (P := P) w dT sT o.type elem g off dLen dCap ⟨u, uo, none⟩ sLen sCap cur.toArray t ((src.drop uo).take m) hu hsz hg (by rw [hlen, hm]) (fun j v hj => by
    have hplain : (⟨u, uo, none⟩ : Addr).add j = ⟨u, uo + j, none⟩ := by unfold Addr.add; split <;> simp_all
    rw [hplain, (rowFacts hu').1, List.getElem?_toArray]
    rw [List.getElem?_take] at hj
    split at hj
    · rw [List.getElem?_drop] at hj; exact hj
    · simp at hj) (by rw [hlen]; simpa using hfit) h1
  have hsp : (cur.toArray.toList.take off ++ (src.drop uo).take m ++ cur.toArray.toList.drop (off + ((src.drop uo).take m).length)) = splice cur off ((src.drop uo).take m) := by
    simp [splice]
  rw [hsp, hlen] at hrun
  have := h _ (setRow_heap w g _ _ t _ hg) ((Chg.refl _ w).setRow g _ rfl) (by simp)
  generalize splice cur off ((src.drop uo).take m) = cs at *
  unfold Oper.wp
  simp [execOp, ho, resolve, invoke, builtin, hd, hs, hrun, Result.andThen]
  exact this

theorem cell_set_ne {w : World} {a b : Addr} {v u : Value} (h : w.cell? b = some u) (hne : a.block ≠ b.block ∨ a.off ≠ b.off) : (w.setCell a v).cell? b = some u := by
  simp only [World.cell?, World.setCell, Array.getElem?_modify] at h ⊢
  by_cases hb : a.block = b.block
  · rw [if_pos hb]
    cases hh : w.heap[b.block]? with
    | none => rw [hh] at h; simp at h
    | some o =>
      rw [hh] at h
      cases o <;> simp at h ⊢
      rcases hne with hne | hne
      · exact absurd hb hne
      · refine ⟨h.1, ?_⟩
        split
        · exact h.2
        · rw [Array.getElem?_setIfInBounds, if_neg hne]; exact h.2
  · rw [if_neg hb]; exact h

/-- The buffered reader B over the reader R of s, its buffer U, no error held: the bytes rem are still to come. -/
def Src (w : World) (R B U : Nat) (s : ByteArray) (rem : List UInt8) : Prop := ∃ (i r wp : Nat) (p lb lr : Int) (buf : List Value) (pend : List UInt8),
   w.heap[R]? = some (.cells #[.string s, .int .i64 i, .int .i64 p] 43 (0, 0)) ∧
   w.heap[B]? = some (.cells #[.slice (some ⟨U, 0, none⟩) 4096 4096, .iface 30 (.pointer (some ⟨R, 0, none⟩)), .int .i64 r, .int .i64 wp, .nilIface, .int .i64 lb, .int .i64 lr] 48 (0, 0)) ∧
   w.heap[U]? = some (.cells buf.toArray 5 (0, 0)) ∧ buf.length = 4096 ∧ wp ≤ 4096 ∧ i ≤ s.size ∧ r + pend.length = wp ∧ (buf.drop r).take pend.length = bytesV pend ∧ rem = pend ++ s.data.toList.drop i

/-- What Read has done: k bytes of rem laid into the row g from off on. -/
def Got (w : World) (R B U : Nat) (s : ByteArray) (rem : List UInt8) (g off n : Nat) (cur : List Value) (k : Nat) (w' : World) : Prop :=
   0 < k ∧ k ≤ n ∧ k ≤ rem.length ∧ w'.heap[g]? = some (.cells (splice cur off (bytesV (rem.take k))).toArray 5 (0, 0)) ∧ Src w' R B U s (rem.drop k) ∧ Chg (fun k => k = R ∨ k = B ∨ k = U ∨ k = g) w w' ∧ w'.heap.size = w.heap.size

end Go.Proofs.Qxb6615548aDoor
