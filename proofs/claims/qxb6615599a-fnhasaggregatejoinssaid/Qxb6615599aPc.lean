import Derived.Test.Qxb6615599aHa
namespace Go.Proofs.Qxb6615599a
open Go.RowKit
set_option linter.unusedVariables false
set_option maxRecDepth 100000

theorem newest1 {w : World} {o : Obj} {n : Nat} (h : n = w.heap.size) : (w.alloc o).heap[n]? = some o := by subst h; exact Array.getElem?_push_size

set_option maxHeartbeats 1000000 in
theorem parts47n (b : Nat) (x y : Value) (nt : Bool) (w : World) (hb : w.heap[b]? = some (.cells #[x, y, .nilIface, .bool nt] 52 (0, 0))) :
    Calls Try.prog 21 #[.iface 47 (.pointer (some ⟨b, 0, none⟩))] w fun e w' => e = .returned (.tuple #[.agg #[.int .u8 17, .int .u8 0, .bool nt, .int .i64 0, .string ⟨#[]⟩, .string ⟨#[]⟩, .string ⟨#[]⟩], x, y, .slice none 0 0]) ∧ Below w.heap.size w w' := by
  obtain ⟨hc, hf⟩ := rowFacts hb
  have hlt := lt_of_heap hb
  have n48 := no48 47 (.pointer (some ⟨b, 0, none⟩)) (by decide)
  have n91 := no91 47 (.pointer (some ⟨b, 0, none⟩)) (by decide)
  have n95 := no95 47 (.pointer (some ⟨b, 0, none⟩)) (by decide)
  have n88 := no88 47 (.pointer (some ⟨b, 0, none⟩)) (by decide)
  have n98 := no98 47 (.pointer (some ⟨b, 0, none⟩)) (by decide)
  have n101 := no101 47 (.pointer (some ⟨b, 0, none⟩)) (by decide)
  have n83 := no83 47 (.pointer (some ⟨b, 0, none⟩)) (by decide)
  have n104 := no104 47 (.pointer (some ⟨b, 0, none⟩)) (by decide)
  have n108 := no108 47 (.pointer (some ⟨b, 0, none⟩)) (by decide)
  have n72 := no72 47 (.pointer (some ⟨b, 0, none⟩)) (by decide)
  have n67 := no67 47 (.pointer (some ⟨b, 0, none⟩)) (by decide)
  have n59 := no59 47 (.pointer (some ⟨b, 0, none⟩)) (by decide)
  have n63 := no63 47 (.pointer (some ⟨b, 0, none⟩)) (by decide)
  have n53 := no53 47 (.pointer (some ⟨b, 0, none⟩)) (by decide)
  have n39 := no39 47 (.pointer (some ⟨b, 0, none⟩)) (by decide)
  have n43 := no43 47 (.pointer (some ⟨b, 0, none⟩)) (by decide)
  have y47 := yes47 (.pointer (some ⟨b, 0, none⟩))
  go_enter Try.func21, Try.ntmps21
  go_wp2
  go_region
  go_wp2
  refine bodyPost_ret (v := .tuple #[.agg #[.int .u8 17, .int .u8 0, .bool nt, .int .i64 0, .string ⟨#[]⟩, .string ⟨#[]⟩, .string ⟨#[]⟩], x, y, .slice none 0 0]) (by simp [results, Try.results21, go_sem]) rfl ⟨rfl, ?_⟩
  first | exact (Below.refl _ _).alloc (Nat.le_refl _) _ | exact ((Below.refl _ _).alloc (Nat.le_refl _) _).drew

set_option maxHeartbeats 1000000 in
theorem parts47 (b : Nat) (x y : Value) (T : TypeId) (z : Value) (nt : Bool) (w : World) (hb : w.heap[b]? = some (.cells #[x, y, .iface T z, .bool nt] 52 (0, 0))) :
    Calls Try.prog 21 #[.iface 47 (.pointer (some ⟨b, 0, none⟩))] w fun e w' => e = .returned (.tuple #[.agg #[.int .u8 17, .int .u8 0, .bool nt, .int .i64 0, .string ⟨#[]⟩, .string ⟨#[]⟩, .string ⟨#[]⟩], x, y, .slice (some ⟨w.heap.size + 1, 0, none⟩) 1 1]) ∧ w'.heap[w.heap.size + 1]? = some (.cells #[.iface T z] 29 (0, 0)) ∧ Below w.heap.size w w' := by
  obtain ⟨hc, hf⟩ := rowFacts hb
  have hlt := lt_of_heap hb
  have hnn := neq_nil T z
  have n48 := no48 47 (.pointer (some ⟨b, 0, none⟩)) (by decide)
  have n91 := no91 47 (.pointer (some ⟨b, 0, none⟩)) (by decide)
  have n95 := no95 47 (.pointer (some ⟨b, 0, none⟩)) (by decide)
  have n88 := no88 47 (.pointer (some ⟨b, 0, none⟩)) (by decide)
  have n98 := no98 47 (.pointer (some ⟨b, 0, none⟩)) (by decide)
  have n101 := no101 47 (.pointer (some ⟨b, 0, none⟩)) (by decide)
  have n83 := no83 47 (.pointer (some ⟨b, 0, none⟩)) (by decide)
  have n104 := no104 47 (.pointer (some ⟨b, 0, none⟩)) (by decide)
  have n108 := no108 47 (.pointer (some ⟨b, 0, none⟩)) (by decide)
  have n72 := no72 47 (.pointer (some ⟨b, 0, none⟩)) (by decide)
  have n67 := no67 47 (.pointer (some ⟨b, 0, none⟩)) (by decide)
  have n59 := no59 47 (.pointer (some ⟨b, 0, none⟩)) (by decide)
  have n63 := no63 47 (.pointer (some ⟨b, 0, none⟩)) (by decide)
  have n53 := no53 47 (.pointer (some ⟨b, 0, none⟩)) (by decide)
  have n39 := no39 47 (.pointer (some ⟨b, 0, none⟩)) (by decide)
  have n43 := no43 47 (.pointer (some ⟨b, 0, none⟩)) (by decide)
  have y47 := yes47 (.pointer (some ⟨b, 0, none⟩))
  go_enter Try.func21, Try.ntmps21
  go_wp2
  go_region
  go_wp2
  refine bodyPost_ret (v := .tuple #[.agg #[.int .u8 17, .int .u8 0, .bool nt, .int .i64 0, .string ⟨#[]⟩, .string ⟨#[]⟩, .string ⟨#[]⟩], x, y, .slice (some ⟨w.heap.size + 1, 0, none⟩) 1 1]) (by simp [results, Try.results21, go_sem]) rfl ⟨rfl, ?_, ?_⟩
  · show ((w.alloc _).alloc _).heap[w.heap.size + 1]? = _
    exact newest1 (by simp)
  · exact (bnext (below_new w _) (below_new _ _)).drew

set_option maxHeartbeats 1000000 in
theorem parts59 (b : Nat) (T : TypeId) (z : Value) (ty : Int) (pr : Int) (w : World) (hb : w.heap[b]? = some (.cells #[.iface T z, .int .u8 ty, .int .i64 pr] 62 (0, 0))) :
    Calls Try.prog 21 #[.iface 59 (.pointer (some ⟨b, 0, none⟩))] w fun e w' => e = .returned (.tuple #[.agg #[.int .u8 12, .int .u8 ty, .bool false, .int .i64 pr, .string ⟨#[]⟩, .string ⟨#[]⟩, .string ⟨#[]⟩], .nilIface, .nilIface, .slice (some ⟨w.heap.size + 1, 0, none⟩) 1 1]) ∧ w'.heap[w.heap.size + 1]? = some (.cells #[.iface T z] 29 (0, 0)) ∧ Below w.heap.size w w' := by
  obtain ⟨hc, hf⟩ := rowFacts hb
  have hlt := lt_of_heap hb
  have n48 := no48 59 (.pointer (some ⟨b, 0, none⟩)) (by decide)
  have n91 := no91 59 (.pointer (some ⟨b, 0, none⟩)) (by decide)
  have n95 := no95 59 (.pointer (some ⟨b, 0, none⟩)) (by decide)
  have n88 := no88 59 (.pointer (some ⟨b, 0, none⟩)) (by decide)
  have n98 := no98 59 (.pointer (some ⟨b, 0, none⟩)) (by decide)
  have n101 := no101 59 (.pointer (some ⟨b, 0, none⟩)) (by decide)
  have n83 := no83 59 (.pointer (some ⟨b, 0, none⟩)) (by decide)
  have n104 := no104 59 (.pointer (some ⟨b, 0, none⟩)) (by decide)
  have n108 := no108 59 (.pointer (some ⟨b, 0, none⟩)) (by decide)
  have n72 := no72 59 (.pointer (some ⟨b, 0, none⟩)) (by decide)
  have n67 := no67 59 (.pointer (some ⟨b, 0, none⟩)) (by decide)
  have y59 := yes59 (.pointer (some ⟨b, 0, none⟩))
  go_enter Try.func21, Try.ntmps21
  go_wp2
  go_region
  go_wp2
  refine bodyPost_ret (v := .tuple #[.agg #[.int .u8 12, .int .u8 ty, .bool false, .int .i64 pr, .string ⟨#[]⟩, .string ⟨#[]⟩, .string ⟨#[]⟩], .nilIface, .nilIface, .slice (some ⟨w.heap.size + 1, 0, none⟩) 1 1]) (by simp [results, Try.results21, go_sem]) rfl ⟨rfl, ?_, ?_⟩
  · show ((w.alloc _).alloc _).heap[w.heap.size + 1]? = _
    exact newest1 (by simp)
  · exact (bnext (below_new w _) (below_new _ _)).drew


end Go.Proofs.Qxb6615599a
