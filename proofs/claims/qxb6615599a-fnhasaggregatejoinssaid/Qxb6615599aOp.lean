import Derived.Test.Qxb6615599aRows
import Derived.Test.Qxb6615599aSt
import Derived.ProofKit
import Derived.OpenShut
import Derived.ShutString
import Derived.Deep.Slices
import Derived.ChangeArms
import Derived.Carry
namespace Go.Proofs.Qxb6615599a
open Go.ChangeShapes Go.WideShapes Go.ChangeAt Go.RowKit
set_option linter.unusedVariables false
set_option maxRecDepth 100000

theorem Try.cells27 : Try.prog.cellsOf 27 = 7 := by kernel_rfl
theorem Try.cells5 : Try.prog.cellsOf 5 = 1 := by kernel_rfl
theorem Try.cells4 : Try.prog.cellsOf 4 = 1 := by kernel_rfl
theorem Try.cells2 : Try.prog.cellsOf 2 = 1 := by kernel_rfl
theorem Try.cells9 : Try.prog.cellsOf 9 = 1 := by kernel_rfl
theorem Try.laidOut : laidOutB Try.prog = true := by kernel_rfl

theorem one_of_take {cs : List Value} {o : Nat} {v : Value} (h : (cs.drop o).take 1 = [v]) : cs[o]? = some v := by
  have : ((cs.drop o).take 1)[0]? = some v := by rw [h]; rfl
  simpa [List.getElem?_take, List.getElem?_drop] using this

theorem open_step {H : Type} {enc : TypeId × Value → H} {W : World} {base : Nat} {spare : Nat → Bool} {held : Bool} {n : Nat} {cs : List Value} {x : DataW H × List MemPlace} (h : DataW.trod enc Try.prog W base spare held n 27 cs = some x) :
    ∃ st, ∀ j, j < 7 → cs[j]? = (stCells st)[j]? := by
  obtain ⟨xs, m, rfl, _, hlen, hxl, hf⟩ := DataW.trod_struct Try.underlying27 h
  have g0 : DataW.trod enc Try.prog W base spare held m 5 ((cs.drop 0).take 1) = xs[0]? := Try.cells5 ▸ hf 0 _ rfl
  have g1 : DataW.trod enc Try.prog W base spare held m 4 ((cs.drop 1).take 1) = xs[1]? := Try.cells4 ▸ hf 1 _ rfl
  have g2 : DataW.trod enc Try.prog W base spare held m 4 ((cs.drop 2).take 1) = xs[2]? := Try.cells4 ▸ hf 2 _ rfl
  have g3 : DataW.trod enc Try.prog W base spare held m 4 ((cs.drop 3).take 1) = xs[3]? := Try.cells4 ▸ hf 3 _ rfl
  have g4 : DataW.trod enc Try.prog W base spare held m 4 ((cs.drop 4).take 1) = xs[4]? := Try.cells4 ▸ hf 4 _ rfl
  have g5 : DataW.trod enc Try.prog W base spare held m 2 ((cs.drop 5).take 1) = xs[5]? := Try.cells2 ▸ hf 5 _ rfl
  have g6 : DataW.trod enc Try.prog W base spare held m 9 ((cs.drop 6).take 1) = xs[6]? := Try.cells9 ▸ hf 6 _ rfl
  match xs, hxl with
  | [x0, x1, x2, x3, x4, x5, x6], _ =>
    obtain ⟨a0, e0, _⟩ := DataW.trod_int Try.underlying5 g0
    obtain ⟨a1, e1, _⟩ := DataW.trod_bool Try.underlying4 g1
    obtain ⟨a2, e2, _⟩ := DataW.trod_bool Try.underlying4 g2
    obtain ⟨a3, e3, _⟩ := DataW.trod_bool Try.underlying4 g3
    obtain ⟨a4, e4, _⟩ := DataW.trod_bool Try.underlying4 g4
    obtain ⟨a5, e5, _⟩ := DataW.trod_int Try.underlying2 g5
    obtain ⟨a6, e6, _⟩ := DataW.trod_string Try.underlying9 g6
    refine ⟨⟨a0, a1, a2, a3, a4, a5, a6⟩, fun j hj => ?_⟩
    match j, hj with
    | 0, _ => exact one_of_take e0
    | 1, _ => exact one_of_take e1
    | 2, _ => exact one_of_take e2
    | 3, _ => exact one_of_take e3
    | 4, _ => exact one_of_take e4
    | 5, _ => exact one_of_take e5
    | 6, _ => exact one_of_take e6

theorem addr_add {g o k j : Nat} : ((⟨g, o, none⟩ : Addr).add k).add j = ⟨g, o + k + j, none⟩ := by
  unfold Addr.add
  split <;> split <;> simp_all

theorem open_steps {H : Type} {enc : TypeId × Value → H} {W : World} {base : Nat} {spare : Nat → Bool} {held : Bool} {p : Option Addr} {len cap : Nat} {d : DataW H} {ps : List MemPlace} (h : DataW.Trod enc Try.prog W base spare held 22 (.slice p len cap) d ps) :
    ∃ L, StepsAt W (.slice p len cap) L := by
  obtain ⟨fuel, hf⟩ := h
  rcases Go.Deep.open_slice Try.underlying22 hf with ⟨hcs, hx⟩ | ⟨a, len', cap', m, n, D, Pl, hcs, _, hl, hm, hmm, hx, hel⟩
  · simp [Value.cells] at hcs
    obtain ⟨rfl, rfl, rfl⟩ := hcs
    exact ⟨[], none, 0, rfl, by simp, .inl rfl⟩
  · simp [Value.cells] at hcs
    obtain ⟨rfl, rfl, rfl⟩ := hcs
    by_cases h0 : len = 0
    · subst h0
      exact ⟨[], _, _, rfl, by simp, .inl rfl⟩
    · have hlm : len ≤ m := by rw [hmm]; split <;> omega
      have hcell : ∀ i, i < len → ∃ st : St, ∀ j, j < 7 → W.cell? ((a.add (i * 7)).add j) = (stCells st)[j]? := by
        intro i hi
        obtain ⟨cs', h1, h2⟩ := hel i (by omega)
        rw [Try.cells27] at h1
        obtain ⟨_, _, h3⟩ := World.cells?_some h1
        obtain ⟨st, h4⟩ := open_step h2
        exact ⟨st, fun j hj => (h3 j hj).trans (h4 j hj)⟩
      obtain ⟨g, o, sp⟩ := a
      have hsp : sp = none := by
        obtain ⟨st, h1⟩ := hcell 0 (by omega)
        have h2 := h1 0 (by omega)
        exact World.cell?_spot (a := ⟨g, o, sp⟩) (v := .int .u8 st.op) (by simpa [Addr.add, stCells] using h2)
      subst hsp
      simp only [addr_add] at hcell
      obtain ⟨st0, _⟩ := hcell 0 (by omega)
      obtain ⟨f, hfs⟩ := @Go.Deep.choose_lt St ⟨st0⟩ len _ hcell
      refine ⟨(List.range len).map f, _, cap, by simp, by simp; exact Nat.le_trans hl hm, .inr ⟨g, o, rfl, fun i st hi j hj => ?_⟩⟩
      rw [List.getElem?_map] at hi
      obtain ⟨q, hq, rfl⟩ := Option.map_eq_some_iff.1 hi
      obtain ⟨hlt, hq'⟩ := List.getElem?_eq_some_iff.1 hq
      simp at hlt hq'
      subst hq'
      exact hfs i hlt j hj

end Go.Proofs.Qxb6615599a
