import Derived.Test.Qxb6615548aDoorBase2
namespace Go.Proofs.Qxb6615548aDoor
open Go.RowKit

theorem splice_get {α : Type} (L cs : List α) (off q : Nat) (hl : off ≤ L.length) (hq : q < cs.length) : (splice L off cs)[off + q]? = cs[q]? := by
  unfold splice
  rw [List.getElem?_append_right (by rw [List.length_take]; omega), List.length_take, Nat.min_eq_left hl, Nat.add_sub_cancel_left, List.getElem?_append_left hq]

theorem byte_at (l : List UInt8) (q : Nat) (h : q < l.length) : ∃ c : UInt8, (bytesV l)[q]? = some (.int .u8 c.toNat) :=
  ⟨l[q], by rw [getElem?_bytesV, List.getElem?_eq_getElem h]; rfl⟩

end Go.Proofs.Qxb6615548aDoor
