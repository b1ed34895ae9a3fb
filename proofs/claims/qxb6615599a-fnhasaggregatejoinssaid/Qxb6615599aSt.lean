import Derived.Test.Qxb6615599aB0
namespace Go.Proofs.Qxb6615599a
open Go.RowKit
set_option linter.unusedVariables false
set_option maxRecDepth 100000

/-- A step, as the law's own type holds it. -/
structure St where
  op : Int
  un : Bool
  call : Bool
  agg : Bool
  str : Bool
  v : Int
  s : ByteArray

def stCells (st : St) : Array Value := #[.int .u8 st.op, .bool st.un, .bool st.call, .bool st.agg, .bool st.str, .int .i64 st.v, .string st.s]

/-- The slice sl holds the steps L. -/
def StepsAt (w : World) (sl : Value) (L : List St) : Prop :=
  ∃ p c, sl = .slice p L.length c ∧ L.length ≤ 9223372036854775807 ∧ (L = [] ∨ ∃ g o, p = some ⟨g, o, none⟩ ∧ ∀ (i : Nat) (st : St), L[i]? = some st → ∀ j, j < 7 → w.cell? ⟨g, o + i * 7 + j, none⟩ = (stCells st)[j]?)

theorem cell_below {w w' : World} (hb : Below w.heap.size w w') {p : Addr} {v : Value} (h : w.cell? p = some v) : w'.cell? p = some v :=
  (World.cell?_of_block (w := w) (hb.block p.block (block_lt_of_cell h))).trans h

theorem stCells_some (st : St) (j : Nat) (hj : j < 7) : ∃ v, (stCells st)[j]? = some v := ⟨_, Array.getElem?_eq_getElem (by simpa [stCells] using hj)⟩

theorem StepsAt.mono {w w' : World} {sl : Value} {L : List St} (h : StepsAt w sl L) (hb : Below w.heap.size w w') : StepsAt w' sl L := by
  obtain ⟨p, c, h1, h2, h3⟩ := h
  refine ⟨p, c, h1, h2, ?_⟩
  rcases h3 with h3 | ⟨g, o, h4, h5⟩
  · exact .inl h3
  · refine .inr ⟨g, o, h4, fun i st hi j hj => ?_⟩
    obtain ⟨v, hv⟩ := stCells_some st j hj
    have := h5 i st hi j hj
    rw [hv] at this ⊢
    exact cell_below hb this

/-- The cells of the step at i. -/
theorem StepsAt.at {w : World} {p : Option Addr} {c n : Nat} {L : List St} (h : StepsAt w (.slice p n c) L) {i : Nat} {st : St} (hi : L[i]? = some st) :
    ∃ g o, p = some ⟨g, o, none⟩ ∧ w.cell? ⟨g, o + i * 7, none⟩ = some (.int .u8 st.op) ∧ w.cell? ⟨g, o + i * 7 + 1, none⟩ = some (.bool st.un) ∧ w.cell? ⟨g, o + i * 7 + 2, none⟩ = some (.bool st.call) ∧ w.cell? ⟨g, o + i * 7 + 3, none⟩ = some (.bool st.agg) ∧ w.cell? ⟨g, o + i * 7 + 4, none⟩ = some (.bool st.str) ∧ w.cell? ⟨g, o + i * 7 + 5, none⟩ = some (.int .i64 st.v) ∧ w.cell? ⟨g, o + i * 7 + 6, none⟩ = some (.string st.s) := by
  obtain ⟨p', c', h1, h2, h3⟩ := h
  cases h1
  rcases h3 with h3 | ⟨g, o, h4, h5⟩
  · subst h3; cases hi
  · have h := h5 i st hi
    exact ⟨g, o, h4, h 0 (by omega), h 1 (by omega), h 2 (by omega), h 3 (by omega), h 4 (by omega), h 5 (by omega), h 6 (by omega)⟩

/-- What the model of the law says. -/
def hasL (la : Bool) (L : List St) : Bool := la || L.any fun st => !st.un && st.agg

def ModRel (w : World) (L : List St) (k : Nat) (v5 : Value) (wr : World) : Prop := ∃ i : Nat, v5 = .int .i64 i ∧ i + k = L.length ∧ wr = w ∧ (L.take i).any (fun st => !st.un && st.agg) = false

theorem any_take_succ {L : List St} {f : St → Bool} {i : Nat} {st : St} (hi : L[i]? = some st) (h : (L.take i).any f = false) : (L.take (i + 1)).any f = f st := by
  rw [List.take_add_one, hi]; simp [h]

theorem any_of_take {L : List St} {f : St → Bool} {i : Nat} (h : (L.take i).any f = true) : L.any f = true := by
  rw [List.any_eq_true] at h ⊢
  obtain ⟨x, hx, hf⟩ := h
  exact ⟨x, List.mem_of_mem_take hx, hf⟩

set_option maxHeartbeats 1000000 in
theorem hasAggModel_any (la : Bool) (w : World) (sl : Value) (L : List St) (hs : StepsAt w sl L) :
    Calls Try.prog 16 #[.bool la, sl] w fun e w' => e = .returned (.bool (hasL la L)) ∧ w' = w := by
  obtain ⟨p, c, rfl, hmax, _⟩ := id hs
  cases la
  · go_enter Try.func16, Try.ntmps16
    go_wp2
    go_loopg [5] L.length (fun k v5 wr => ModRel w L k v5 wr)
    case atStart => exact ⟨0, rfl, by omega, rfl, rfl⟩
    case round =>
      obtain ⟨i, rfl, hik, rfl, hno⟩ := hrel
      cases gk with
      | zero =>
        have hi : i = L.length := by omega
        subst hi
        go_wp2
        go_ret
        rw [List.take_length] at hno
        exact ⟨by simp [hasL, hno], rfl⟩
      | succ k' =>
        have hi : i < L.length := by omega
        obtain ⟨st, hst⟩ : ∃ x, L[i]? = some x := ⟨_, List.getElem?_eq_getElem hi⟩
        obtain ⟨g, o, rfl, h0, h1, h2, h3, h4, h5, h6⟩ := hs.at hst
        have hnx := any_take_succ hst hno
        obtain ⟨op, un, call, agg, str, v, s⟩ := st
        simp only at h0 h1 h2 h3 h4 h5 h6 hnx
        clear hno
        cases un
        · cases agg
          · go_wp2
            go_roundg k'
            case measure => omega
            case rel => exact ⟨i + 1, by go_num, by omega, rfl, hnx⟩
          · have hL := any_of_take hnx
            clear hnx
            go_wp2
            go_ret
            exact ⟨by simp [hasL, hL], rfl⟩
        · go_wp2
          go_roundg k'
          case measure => omega
          case rel => exact ⟨i + 1, by go_num, by omega, rfl, hnx⟩
  · go_enter Try.func16, Try.ntmps16
    go_wp2
    go_ret
    exact ⟨rfl, rfl⟩

end Go.Proofs.Qxb6615599a
