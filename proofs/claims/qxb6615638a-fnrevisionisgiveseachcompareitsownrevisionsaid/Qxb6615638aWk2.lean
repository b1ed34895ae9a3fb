import Derived.Test.Qxb6615638aWk
import Derived.LaidEqlPtr
namespace Go.Proofs.Qxb6615638a
open Go.RowKit
set_option maxRecDepth 100000

theorem keep_alloc {W : World} {o x : Obj} {i : Nat} (h : W.heap[i]? = some x) : (W.alloc o).heap[i]? = some x :=
  (Below.heap_alloc W o i (Array.getElem?_eq_some_iff.1 h).1).trans h
theorem grown_drewN {W w' : World} (h : Grown W w') (n : Nat) : Grown W (w'.drewN n) := h
theorem new_alloc {W : World} {o : Obj} {i : Nat} (h : W.heap.size = i) : (W.alloc o).heap[i]? = some o := by subst h; exact heap_alloc_new W o
theorem Try.size22 : (Try.prog.info? 22).map (·.size) = some 1 := by kernel_rfl

set_option maxHeartbeats 800000 in
theorem law_any (k : ByteArray) (n : Int) (w : World) :
    Calls Try.prog 3 #[.string k, .int .u64 n] w fun e w' => e = .returned (.bool true) ∧ Grown w w' := by
  by_cases hk : k.size ≤ 1048576
  · go_enter Try.func3, Try.ntmps3
    go_wp2_with (first | (go_at_call 4; go_in))
    go_wp2_with fail
    refine (revisionIs_any k n _).mono ?_
    rintro e w1 ⟨rfl, rfl⟩
    go_wp2_with fail
    refine (revisionIs_any k n _).mono ?_
    rintro e w2 ⟨rfl, rfl⟩
    go_wp2_with fail
    refine (parts_any k _ _ _).mono ?_
    rintro e w3 ⟨rfl, m3, rfl⟩
    go_wp2_with fail
    refine (parts_any k _ _ _).mono ?_
    rintro e w4 ⟨rfl, m4, rfl⟩
    go_wp2_with fail
    obtain ⟨j, hj, hjs⟩ := Option.map_eq_some_iff.1 Try.size22
    rw [run_eql_ptr_other _ Try.underlying24 hj (by rw [hjs]; decide) (a := ⟨w.heap.size, 0, none⟩) (b := ⟨w.heap.size + 1 + 1 + 1, 0, none⟩) (ca := #[.int .u64 n]) (ta := 22) (cb := #[.int .u64 n]) (tb := 22) ?hne ?ha ?hb]
    case hne => simp
    case ha => repeat (first | exact heap_alloc_new _ _ | apply keep_alloc)
    case hb => repeat (first | exact new_alloc (by simp) | apply keep_alloc)
    go_wp2_with fail
    all_goals
      go_ret
      refine ⟨rfl, Grown.setCell ?_ (by show w.heap.size ≤ w.heap.size + 1 + 1 + 1; omega) _⟩
      repeat (first | exact Grown.refl _ | apply Grown.alloc | apply grown_drewN)
  · go_enter Try.func3, Try.ntmps3
    go_wp2_with (first | (go_at_call 4; go_in))
    go_ret
    exact ⟨rfl, Grown.refl _⟩

end Go.Proofs.Qxb6615638a
