import Derived.Test.Qxb6615548aDoorInv2
namespace Go.Proofs.Qxb6615548aDoor
open Go.RowKit

/-- The state of the loop that joins the chunks: the first (cks.length - k) of them lie in the row gf. -/
def Fin (w3 : World) (cks : List Ck) (gf cf : Nat) (k : Nat) (vfin vj : Value) (wx : World) : Prop :=
  ∃ (j : Nat) (curf : List Value), j + k = cks.length ∧ vj = .int .i64 (j : Int) ∧ vfin = .slice (some ⟨gf, 0, none⟩) (cat (cks.take j)).length cf ∧ wx.heap[gf]? = some (.cells curf.toArray 5 (0, 0)) ∧ curf.length = cf ∧
    curf.take (cat (cks.take j)).length = bytesV (cat (cks.take j)) ∧ Chg (fun x => x = gf) w3 wx

theorem fin_start {w3 : World} {cks : List Ck} {gf cf : Nat} (h : w3.heap[gf]? = some (.cells (zs cf).toArray 5 (0, 0))) : Fin w3 cks gf cf cks.length (.slice (some ⟨gf, 0, none⟩) 0 cf) (.int .i64 0) w3 :=
  ⟨0, zs cf, by omega, rfl, by simp [cat], h, length_zs _, by simp [cat, bytesV], Chg.refl _ _⟩

theorem cat_take_succ {cks : List Ck} {j : Nat} {ck : Ck} (h : cks[j]? = some ck) : cat (cks.take (j + 1)) = cat (cks.take j) ++ ck.bs := by
  have : cks.take (j + 1) = cks.take j ++ [ck] := by
    obtain ⟨hj, e⟩ := List.getElem?_eq_some_iff.1 h
    rw [List.take_succ_eq_append_getElem hj, e]
  rw [this, cat_append]

theorem cat_split {cks : List Ck} {j : Nat} {ck : Ck} (h : cks[j]? = some ck) : (cat (cks.take j)).length + ck.bs.length ≤ (cat cks).length := by
  have e : cat cks = cat (cks.take (j + 1)) ++ cat (cks.drop (j + 1)) := by
    unfold cat; rw [← List.flatMap_append, List.take_append_drop]
  rw [e, cat_take_succ h]; simp only [List.length_append]; omega

theorem take_splice_at (cur cs : List Value) (xs : List Value) (h : cur.take xs.length = xs) : (splice cur xs.length cs).take (xs.length + cs.length) = xs ++ cs := by
  unfold splice
  rw [h, ← List.append_assoc]
  have e : xs.length + cs.length = (xs ++ cs).length := by simp
  rw [e, List.take_append_of_le_length (Nat.le_refl _), List.take_of_length_le (Nat.le_refl _)]

theorem joined {curf src : List Value} {A Bs : List UInt8} (h1 : curf.take A.length = bytesV A) (h2 : src.take Bs.length = bytesV Bs) (hl : A.length + Bs.length ≤ curf.length) :
    (splice curf A.length (src.take Bs.length)).take (A ++ Bs).length = bytesV (A ++ Bs) ∧ (splice curf A.length (src.take Bs.length)).length = curf.length := by
  rw [h2]
  have hA : (bytesV A).length = A.length := length_bytesV _
  have hBl : (bytesV Bs).length = Bs.length := length_bytesV _
  constructor
  · have := take_splice_at curf (bytesV Bs) (bytesV A) (by rw [hA]; exact h1)
    rw [hA, hBl] at this
    rw [List.length_append, this]; simp [bytesV]
  · rw [length_splice _ _ _ (by rw [hBl]; exact hl)]

theorem fin_step {w3 : World} {cks : List Ck} {gf cf : Nat} {j k : Nat} {ck : Ck} (hck : cks[j]? = some ck) (hjk : j + (k + 1) = cks.length) {curf src : List Value} {wx w' : World} (hcl : curf.length = cf)
    (hct : curf.take (cat (cks.take j)).length = bytesV (cat (cks.take j))) (hsrc : src.take ck.bs.length = bytesV ck.bs) (hroom : (cat (cks.take j)).length + ck.bs.length ≤ cf) (hc : Chg (fun x => x = gf) w3 wx)
    (hg : w'.heap[gf]? = some (.cells (splice curf (cat (cks.take j)).length (src.take ck.bs.length)).toArray 5 (0, 0))) (hc' : Chg (fun x => x = gf) wx w') :
    Fin w3 cks gf cf k (.slice (some ⟨gf, 0, none⟩) ((cat (cks.take j)).length + ck.bs.length) cf) (.int .i64 ((j : Int) + 1)) w' := by
  obtain ⟨h1, h2⟩ := joined hct hsrc (by omega)
  refine ⟨j + 1, _, by omega, by simp, ?_, hg, by rw [h2, hcl], ?_, hc.trans hc'⟩
  · rw [cat_take_succ hck, List.length_append]
  · rw [cat_take_succ hck]; exact h1

end Go.Proofs.Qxb6615548aDoor
