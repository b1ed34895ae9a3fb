import Derived.Test.Qxb6615599aB0
namespace Go.Proofs.Qxb6615599a
open Go.RowKit
set_option linter.unusedVariables false
set_option maxRecDepth 100000

set_option maxHeartbeats 1000000 in
theorem parts56 (b : Nat) (x : Value) (nt : Bool) (w : World) (hb : w.heap[b]? = some (.cells #[x, .bool nt] 58 (0, 0))) :
    Calls Try.prog 21 #[.iface 56 (.pointer (some ⟨b, 0, none⟩))] w fun e w' => e = .returned (.tuple #[.agg #[.int .u8 18, .int .u8 0, .bool nt, .int .i64 0, .string ⟨#[]⟩, .string ⟨#[]⟩, .string ⟨#[]⟩], x, .nilIface, .slice none 0 0]) ∧ Below w.heap.size w w' := by
  obtain ⟨hc, hf⟩ := rowFacts hb
  have hlt := lt_of_heap hb
  have n48 := no48 56 (.pointer (some ⟨b, 0, none⟩)) (by decide)
  have n91 := no91 56 (.pointer (some ⟨b, 0, none⟩)) (by decide)
  have n95 := no95 56 (.pointer (some ⟨b, 0, none⟩)) (by decide)
  have n88 := no88 56 (.pointer (some ⟨b, 0, none⟩)) (by decide)
  have n98 := no98 56 (.pointer (some ⟨b, 0, none⟩)) (by decide)
  have n101 := no101 56 (.pointer (some ⟨b, 0, none⟩)) (by decide)
  have n83 := no83 56 (.pointer (some ⟨b, 0, none⟩)) (by decide)
  have n104 := no104 56 (.pointer (some ⟨b, 0, none⟩)) (by decide)
  have n108 := no108 56 (.pointer (some ⟨b, 0, none⟩)) (by decide)
  have n72 := no72 56 (.pointer (some ⟨b, 0, none⟩)) (by decide)
  have n67 := no67 56 (.pointer (some ⟨b, 0, none⟩)) (by decide)
  have n59 := no59 56 (.pointer (some ⟨b, 0, none⟩)) (by decide)
  have n63 := no63 56 (.pointer (some ⟨b, 0, none⟩)) (by decide)
  have n53 := no53 56 (.pointer (some ⟨b, 0, none⟩)) (by decide)
  have n39 := no39 56 (.pointer (some ⟨b, 0, none⟩)) (by decide)
  have n43 := no43 56 (.pointer (some ⟨b, 0, none⟩)) (by decide)
  have n47 := no47 56 (.pointer (some ⟨b, 0, none⟩)) (by decide)
  have y56 := yes56 (.pointer (some ⟨b, 0, none⟩))
  go_enter Try.func21, Try.ntmps21
  go_wp2
  go_region
  go_wp2
  refine bodyPost_ret (v := .tuple #[.agg #[.int .u8 18, .int .u8 0, .bool nt, .int .i64 0, .string ⟨#[]⟩, .string ⟨#[]⟩, .string ⟨#[]⟩], x, .nilIface, .slice none 0 0]) (by simp [results, Try.results21, go_sem]) rfl ⟨rfl, ?_⟩
  first | exact (Below.refl _ _).alloc (Nat.le_refl _) _ | exact ((Below.refl _ _).alloc (Nat.le_refl _) _).drew

set_option maxHeartbeats 1000000 in
theorem parts63 (b : Nat) (x : Value) (u : Int) (w : World) (hb : w.heap[b]? = some (.cells #[x, .int .u8 u] 66 (0, 0))) :
    Calls Try.prog 21 #[.iface 63 (.pointer (some ⟨b, 0, none⟩))] w fun e w' => e = .returned (.tuple #[.agg #[.int .u8 13, .int .u8 u, .bool false, .int .i64 0, .string ⟨#[]⟩, .string ⟨#[]⟩, .string ⟨#[]⟩], .nilIface, x, .slice none 0 0]) ∧ Below w.heap.size w w' := by
  obtain ⟨hc, hf⟩ := rowFacts hb
  have hlt := lt_of_heap hb
  have n48 := no48 63 (.pointer (some ⟨b, 0, none⟩)) (by decide)
  have n91 := no91 63 (.pointer (some ⟨b, 0, none⟩)) (by decide)
  have n95 := no95 63 (.pointer (some ⟨b, 0, none⟩)) (by decide)
  have n88 := no88 63 (.pointer (some ⟨b, 0, none⟩)) (by decide)
  have n98 := no98 63 (.pointer (some ⟨b, 0, none⟩)) (by decide)
  have n101 := no101 63 (.pointer (some ⟨b, 0, none⟩)) (by decide)
  have n83 := no83 63 (.pointer (some ⟨b, 0, none⟩)) (by decide)
  have n104 := no104 63 (.pointer (some ⟨b, 0, none⟩)) (by decide)
  have n108 := no108 63 (.pointer (some ⟨b, 0, none⟩)) (by decide)
  have n72 := no72 63 (.pointer (some ⟨b, 0, none⟩)) (by decide)
  have n67 := no67 63 (.pointer (some ⟨b, 0, none⟩)) (by decide)
  have n59 := no59 63 (.pointer (some ⟨b, 0, none⟩)) (by decide)
  have y63 := yes63 (.pointer (some ⟨b, 0, none⟩))
  go_enter Try.func21, Try.ntmps21
  go_wp2
  go_region
  go_wp2
  refine bodyPost_ret (v := .tuple #[.agg #[.int .u8 13, .int .u8 u, .bool false, .int .i64 0, .string ⟨#[]⟩, .string ⟨#[]⟩, .string ⟨#[]⟩], .nilIface, x, .slice none 0 0]) (by simp [results, Try.results21, go_sem]) rfl ⟨rfl, ?_⟩
  first | exact (Below.refl _ _).alloc (Nat.le_refl _) _ | exact ((Below.refl _ _).alloc (Nat.le_refl _) _).drew

set_option maxHeartbeats 1000000 in
theorem parts43 (b : Nat) (x : Value) (a : Option Addr) (l c : Nat) (nt : Bool) (w : World) (hb : w.heap[b]? = some (.cells #[x, .slice a l c, .bool nt] 46 (0, 0))) :
    Calls Try.prog 21 #[.iface 43 (.pointer (some ⟨b, 0, none⟩))] w fun e w' => e = .returned (.tuple #[.agg #[.int .u8 16, .int .u8 0, .bool nt, .int .i64 0, .string ⟨#[]⟩, .string ⟨#[]⟩, .string ⟨#[]⟩], x, .nilIface, .slice a l c]) ∧ Below w.heap.size w w' := by
  obtain ⟨hc, hf⟩ := rowFacts hb
  have hlt := lt_of_heap hb
  have n48 := no48 43 (.pointer (some ⟨b, 0, none⟩)) (by decide)
  have n91 := no91 43 (.pointer (some ⟨b, 0, none⟩)) (by decide)
  have n95 := no95 43 (.pointer (some ⟨b, 0, none⟩)) (by decide)
  have n88 := no88 43 (.pointer (some ⟨b, 0, none⟩)) (by decide)
  have n98 := no98 43 (.pointer (some ⟨b, 0, none⟩)) (by decide)
  have n101 := no101 43 (.pointer (some ⟨b, 0, none⟩)) (by decide)
  have n83 := no83 43 (.pointer (some ⟨b, 0, none⟩)) (by decide)
  have n104 := no104 43 (.pointer (some ⟨b, 0, none⟩)) (by decide)
  have n108 := no108 43 (.pointer (some ⟨b, 0, none⟩)) (by decide)
  have n72 := no72 43 (.pointer (some ⟨b, 0, none⟩)) (by decide)
  have n67 := no67 43 (.pointer (some ⟨b, 0, none⟩)) (by decide)
  have n59 := no59 43 (.pointer (some ⟨b, 0, none⟩)) (by decide)
  have n63 := no63 43 (.pointer (some ⟨b, 0, none⟩)) (by decide)
  have n53 := no53 43 (.pointer (some ⟨b, 0, none⟩)) (by decide)
  have n39 := no39 43 (.pointer (some ⟨b, 0, none⟩)) (by decide)
  have y43 := yes43 (.pointer (some ⟨b, 0, none⟩))
  go_enter Try.func21, Try.ntmps21
  go_wp2
  go_region
  go_wp2
  refine bodyPost_ret (v := .tuple #[.agg #[.int .u8 16, .int .u8 0, .bool nt, .int .i64 0, .string ⟨#[]⟩, .string ⟨#[]⟩, .string ⟨#[]⟩], x, .nilIface, .slice a l c]) (by simp [results, Try.results21, go_sem]) rfl ⟨rfl, ?_⟩
  first | exact (Below.refl _ _).alloc (Nat.le_refl _) _ | exact ((Below.refl _ _).alloc (Nat.le_refl _) _).drew


end Go.Proofs.Qxb6615599a
