import Derived.Test.Qxb6615548aDoorBase4
namespace Go.Proofs.Qxb6615548aDoor
open Go.RowKit

/-- A chunk: its block, its capacity, its bytes. -/
structure Ck where
  blk : Nat
  cap : Nat
  bs : List UInt8
def Ck.val (c : Ck) : Value := .slice (some ⟨c.blk, 0, none⟩) c.bs.length c.cap
def Ck.lies (w : World) (c : Ck) : Prop := ∃ cur : List Value, w.heap[c.blk]? = some (.cells cur.toArray 5 (0, 0)) ∧ cur.take c.bs.length = bytesV c.bs
/-- All bytes of a list of chunks. -/
def cat (cks : List Ck) : List UInt8 := cks.flatMap Ck.bs

theorem cat_append (a : List Ck) (c : Ck) : cat (a ++ [c]) = cat a ++ c.bs := by simp [cat]
theorem lies_len {c : Ck} {cur : List Value} (h : cur.take c.bs.length = bytesV c.bs) : c.bs.length ≤ cur.length := by
  have := congrArg List.length h
  rw [List.length_take, length_bytesV] at this; omega
theorem Ck.lies_chg {S : Nat → Prop} {w w' : World} {c : Ck} (h : c.lies w) (hc : Chg S w w') (hn : ¬ S c.blk) : c.lies w' := by
  obtain ⟨cur, h1, h2⟩ := h
  exact ⟨cur, hc.heap h1 hn, h2⟩

/-- The state of ReadAll's loop: b the chunk in hand, nx the next capacity asked, cks the chunks that are full, rem what is still to come. -/
structure At (w0 : World) (R B U : Nat) (s : ByteArray) (full : List UInt8) (b : Ck) (nx : Nat) (vc : Value) (cks : List Ck) (rem : List UInt8) (wr : World) : Prop where
  len : b.bs.length < b.cap
  cap : 256 ≤ b.cap
  capM : b.cap ≤ 9223372036854775807
  row : ∃ cur : List Value, wr.heap[b.blk]? = some (.cells cur.toArray 5 (0, 0)) ∧ cur.length = b.cap ∧ cur.take b.bs.length = bytesV b.bs
  own : wr.ownsRow w0.heap.size 32 1 vc cks.length (cks.map Ck.val)
  lies : ∀ c ∈ cks, c.lies wr ∧ c.blk ≠ b.blk ∧ w0.heap.size ≤ c.blk
  full : full = cat cks ++ b.bs ++ rem
  src : Src wr R B U s rem
  nx1 : 2 * nx ≤ 3 * b.cap
  nx0 : 256 ≤ nx
  chg : Chg (fun k => k = R ∨ k = B ∨ k = U) w0 wr
  blk : w0.heap.size ≤ b.blk
  few : cks.length ≤ (cat cks).length

theorem Src.chg {S : Nat → Prop} {w w' : World} {R B U : Nat} {s : ByteArray} {rem : List UInt8} (h : Src w R B U s rem) (hc : Chg S w w') (hR : ¬ S R) (hB : ¬ S B) (hU : ¬ S U) : Src w' R B U s rem := by
  obtain ⟨i, r, wp, p, lb, lr, buf, pend, h1, h2, h3, h4⟩ := h
  exact ⟨i, r, wp, p, lb, lr, buf, pend, hc.heap h1 hR, hc.heap h2 hB, hc.heap h3 hU, h4⟩

/-- The relation of ReadAll's loop. -/
def Rel (w0 : World) (R B U : Nat) (s : ByteArray) (full : List UInt8) (k : Nat) (vb vn vc vf : Value) (wr : World) : Prop :=
  ∃ (b : Ck) (nx : Nat) (cks : List Ck) (rem : List UInt8), vb = b.val ∧ vn = .int .i64 (nx : Int) ∧ vf = .int .i64 ((cat cks).length : Int) ∧ rem.length = k ∧ At w0 R B U s full b nx vc cks rem wr

theorem rel_start {w : World} {R B U : Nat} {s : ByteArray} {full : List UInt8} (hS : Src w R B U s full) :
    Rel w R B U s full full.length (.slice (some ⟨w.heap.size, 0, none⟩) 0 512) (.int .i64 256) (.slice (some ⟨w.heap.size + 1, 0, none⟩) 0 4) (.int .i64 0)
      ((w.alloc (.cells (zs 512).toArray 5)).alloc (.cells #[.slice none 0 0, .slice none 0 0, .slice none 0 0, .slice none 0 0] 32)) := by
  have hc : Chg (fun _ => False) w ((w.alloc (.cells (zs 512).toArray 5)).alloc (.cells #[.slice none 0 0, .slice none 0 0, .slice none 0 0, .slice none 0 0] 32)) := ((Chg.refl _ w).alloc _).alloc _
  refine ⟨⟨w.heap.size, 512, []⟩, 256, [], full, rfl, rfl, rfl, rfl, ?_⟩
  refine ⟨by simp, by simp, by simp, ⟨zs 512, heap_alloc2_old _ _ _, length_zs _, by simp [bytesV]⟩, ?_, by simp, by simp [cat], hS.chg hc (fun h => h) (fun h => h) (fun h => h), by simp, by simp, hc.mono (fun _ _ h => h.elim), Nat.le_refl _, by simp⟩
  have := World.ownsRow_made (base := w.heap.size) (e := 32) (size := 1) (w.alloc (.cells (zs 512).toArray 5)) #[.slice none 0 0, .slice none 0 0, .slice none 0 0, .slice none 0 0] 4 (by simp) (by simp [maxLen]) (by simp)
  simpa using this

/-- Read has laid k bytes of rem into the chunk in hand. -/
theorem At.read {w0 : World} {R B U : Nat} {s : ByteArray} {full : List UInt8} {b : Ck} {nx : Nat} {vc : Value} {cks : List Ck} {rem : List UInt8} {wr : World} (h : At w0 R B U s full b nx vc cks rem wr)
    (hR : R < w0.heap.size) (hB : B < w0.heap.size) (hU : U < w0.heap.size)
    {cur : List Value} (hrow : wr.heap[b.blk]? = some (.cells cur.toArray 5 (0, 0))) (hcl : cur.length = b.cap) (hct : cur.take b.bs.length = bytesV b.bs) {k n : Nat} {w' : World} (hg : Got wr R B U s rem b.blk b.bs.length n cur k w') (hn : b.bs.length + n ≤ b.cap) :
    ∃ cur' : List Value, w'.heap[b.blk]? = some (.cells cur'.toArray 5 (0, 0)) ∧ cur'.length = b.cap ∧ cur'.take (b.bs.length + k) = bytesV (b.bs ++ rem.take k) ∧ w'.ownsRow w0.heap.size 32 1 vc cks.length (cks.map Ck.val) ∧
      (∀ c ∈ cks, c.lies w' ∧ c.blk ≠ b.blk ∧ w0.heap.size ≤ c.blk) ∧ full = cat cks ++ (b.bs ++ rem.take k) ++ rem.drop k ∧ Chg (fun k => k = R ∨ k = B ∨ k = U) w0 w' := by
  obtain ⟨k0, kn, kr, hrow', hsrc, hc, hz⟩ := hg
  have hlen : (bytesV (rem.take k)).length = k := by rw [length_bytesV, List.length_take]; omega
  have hSc : Src wr R B U s rem := h.src
  obtain ⟨i, r, wp, p, lb, lr, buf, pend, hRr, hBr, hUr, _⟩ := hSc
  refine ⟨_, hrow', ?_, ?_, ?_, ?_, ?_, ?_⟩
  · rw [length_splice _ _ _ (by rw [hlen]; omega), hcl]
  · unfold splice
    rw [hct]
    have e1 : b.bs.length + k = (bytesV b.bs ++ bytesV (rem.take k)).length := by rw [List.length_append, hlen, length_bytesV]
    rw [← List.append_assoc, e1, List.take_append_of_le_length (Nat.le_refl _), List.take_of_length_le (Nat.le_refl _)]
    simp [bytesV]
  · refine owns_chg h.own hc fun g c hgc hS => ?_
    rcases hS with e | e | e | e <;> subst e
    · rw [hRr] at hgc; simp at hgc
    · rw [hBr] at hgc; simp at hgc
    · rw [hUr] at hgc; simp at hgc
    · rw [hrow] at hgc; simp at hgc
  · intro c hcm
    obtain ⟨h1, h2, h3⟩ := h.lies c hcm
    exact ⟨Ck.lies_chg h1 hc (by show ¬ (_ ∨ _ ∨ _ ∨ _); omega), h2, h3⟩
  · rw [h.full]; simp [List.append_assoc, List.take_append_drop]
  · have hc2 := h.chg
    refine ⟨hc.os.trans hc2.os, hc.tape.trans hc2.tape, hc.output.trans hc2.output, Nat.le_trans hc2.size hc.size, fun j hj hnj => ?_⟩
    have := h.blk
    rw [hc.block j (Nat.lt_of_lt_of_le hj hc2.size) (by show ¬ (_ ∨ _ ∨ _ ∨ _); intro hh; rcases hh with e | e | e | e; exact hnj (Or.inl e); exact hnj (Or.inr (Or.inl e)); exact hnj (Or.inr (Or.inr e)); omega), hc2.block j hj hnj]

end Go.Proofs.Qxb6615548aDoor
