import Derived.Test.Qxb6615599aB0
namespace Go.Proofs.Qxb6615599a
open Go.RowKit
set_option linter.unusedVariables false
set_option maxRecDepth 100000

set_option maxHeartbeats 1000000 in
theorem parts48 (b : Nat) (n : Int) (w : World) (hb : w.heap[b]? = some (.cells #[.int .i64 n] 50 (0, 0))) :
    Calls Try.prog 21 #[.iface 48 (.pointer (some ⟨b, 0, none⟩))] w fun e w' => e = .returned (.tuple #[.agg #[.int .u8 1, .int .u8 0, .bool false, .int .i64 n, .string ⟨#[]⟩, .string ⟨#[]⟩, .string ⟨#[]⟩], .nilIface, .nilIface, .slice none 0 0]) ∧ Below w.heap.size w w' := by
  obtain ⟨hc, hf⟩ := rowFacts hb
  have hlt := lt_of_heap hb
  have y48 := yes48 (.pointer (some ⟨b, 0, none⟩))
  go_enter Try.func21, Try.ntmps21
  go_wp2
  refine bodyPost_ret (v := .tuple #[.agg #[.int .u8 1, .int .u8 0, .bool false, .int .i64 n, .string ⟨#[]⟩, .string ⟨#[]⟩, .string ⟨#[]⟩], .nilIface, .nilIface, .slice none 0 0]) (by simp [results, Try.results21, go_sem]) rfl ⟨rfl, ?_⟩
  first | exact (Below.refl _ _).alloc (Nat.le_refl _) _ | exact ((Below.refl _ _).alloc (Nat.le_refl _) _).drew

set_option maxHeartbeats 1000000 in
theorem parts88 (b : Nat) (s : ByteArray) (w : World) (hb : w.heap[b]? = some (.cells #[.string s] 90 (0, 0))) :
    Calls Try.prog 21 #[.iface 88 (.pointer (some ⟨b, 0, none⟩))] w fun e w' => e = .returned (.tuple #[.agg #[.int .u8 4, .int .u8 0, .bool false, .int .i64 0, .string s, .string ⟨#[]⟩, .string ⟨#[]⟩], .nilIface, .nilIface, .slice none 0 0]) ∧ Below w.heap.size w w' := by
  obtain ⟨hc, hf⟩ := rowFacts hb
  have hlt := lt_of_heap hb
  have n48 := no48 88 (.pointer (some ⟨b, 0, none⟩)) (by decide)
  have n91 := no91 88 (.pointer (some ⟨b, 0, none⟩)) (by decide)
  have n95 := no95 88 (.pointer (some ⟨b, 0, none⟩)) (by decide)
  have y88 := yes88 (.pointer (some ⟨b, 0, none⟩))
  go_enter Try.func21, Try.ntmps21
  go_wp2
  refine bodyPost_ret (v := .tuple #[.agg #[.int .u8 4, .int .u8 0, .bool false, .int .i64 0, .string s, .string ⟨#[]⟩, .string ⟨#[]⟩], .nilIface, .nilIface, .slice none 0 0]) (by simp [results, Try.results21, go_sem]) rfl ⟨rfl, ?_⟩
  first | exact (Below.refl _ _).alloc (Nat.le_refl _) _ | exact ((Below.refl _ _).alloc (Nat.le_refl _) _).drew

set_option maxHeartbeats 1000000 in
theorem parts67 (b : Nat) (f : Int) (s : ByteArray) (x : Value) (d : Bool) (w : World) (hb : w.heap[b]? = some (.cells #[.int .u8 f, .string s, x, .bool d] 70 (0, 0))) :
    Calls Try.prog 21 #[.iface 67 (.pointer (some ⟨b, 0, none⟩))] w fun e w' => e = .returned (.tuple #[.agg #[.int .u8 11, .int .u8 0, .bool d, .int .i64 0, .string s, .string ⟨#[]⟩, .string ⟨#[]⟩], .nilIface, x, .slice none 0 0]) ∧ Below w.heap.size w w' := by
  obtain ⟨hc, hf⟩ := rowFacts hb
  have hlt := lt_of_heap hb
  have n48 := no48 67 (.pointer (some ⟨b, 0, none⟩)) (by decide)
  have n91 := no91 67 (.pointer (some ⟨b, 0, none⟩)) (by decide)
  have n95 := no95 67 (.pointer (some ⟨b, 0, none⟩)) (by decide)
  have n88 := no88 67 (.pointer (some ⟨b, 0, none⟩)) (by decide)
  have n98 := no98 67 (.pointer (some ⟨b, 0, none⟩)) (by decide)
  have n101 := no101 67 (.pointer (some ⟨b, 0, none⟩)) (by decide)
  have n83 := no83 67 (.pointer (some ⟨b, 0, none⟩)) (by decide)
  have n104 := no104 67 (.pointer (some ⟨b, 0, none⟩)) (by decide)
  have n108 := no108 67 (.pointer (some ⟨b, 0, none⟩)) (by decide)
  have n72 := no72 67 (.pointer (some ⟨b, 0, none⟩)) (by decide)
  have y67 := yes67 (.pointer (some ⟨b, 0, none⟩))
  go_enter Try.func21, Try.ntmps21
  go_wp2
  go_region
  go_wp2
  refine bodyPost_ret (v := .tuple #[.agg #[.int .u8 11, .int .u8 0, .bool d, .int .i64 0, .string s, .string ⟨#[]⟩, .string ⟨#[]⟩], .nilIface, x, .slice none 0 0]) (by simp [results, Try.results21, go_sem]) rfl ⟨rfl, ?_⟩
  first | exact (Below.refl _ _).alloc (Nat.le_refl _) _ | exact ((Below.refl _ _).alloc (Nat.le_refl _) _).drew

set_option maxHeartbeats 1000000 in
theorem parts72 (b : Nat) (s : ByteArray) (a : Option Addr) (l c : Nat) (u : Int) (w : World) (hb : w.heap[b]? = some (.cells #[.string s, .slice a l c, .int .u8 u] 75 (0, 0))) :
    Calls Try.prog 21 #[.iface 72 (.pointer (some ⟨b, 0, none⟩))] w fun e w' => e = .returned (.tuple #[.agg #[.int .u8 10, .int .u8 u, .bool false, .int .i64 0, .string s, .string ⟨#[]⟩, .string ⟨#[]⟩], .nilIface, .nilIface, .slice a l c]) ∧ Below w.heap.size w w' := by
  obtain ⟨hc, hf⟩ := rowFacts hb
  have hlt := lt_of_heap hb
  have n48 := no48 72 (.pointer (some ⟨b, 0, none⟩)) (by decide)
  have n91 := no91 72 (.pointer (some ⟨b, 0, none⟩)) (by decide)
  have n95 := no95 72 (.pointer (some ⟨b, 0, none⟩)) (by decide)
  have n88 := no88 72 (.pointer (some ⟨b, 0, none⟩)) (by decide)
  have n98 := no98 72 (.pointer (some ⟨b, 0, none⟩)) (by decide)
  have n101 := no101 72 (.pointer (some ⟨b, 0, none⟩)) (by decide)
  have n83 := no83 72 (.pointer (some ⟨b, 0, none⟩)) (by decide)
  have n104 := no104 72 (.pointer (some ⟨b, 0, none⟩)) (by decide)
  have n108 := no108 72 (.pointer (some ⟨b, 0, none⟩)) (by decide)
  have y72 := yes72 (.pointer (some ⟨b, 0, none⟩))
  go_enter Try.func21, Try.ntmps21
  go_wp2
  go_region
  go_wp2
  refine bodyPost_ret (v := .tuple #[.agg #[.int .u8 10, .int .u8 u, .bool false, .int .i64 0, .string s, .string ⟨#[]⟩, .string ⟨#[]⟩], .nilIface, .nilIface, .slice a l c]) (by simp [results, Try.results21, go_sem]) rfl ⟨rfl, ?_⟩
  first | exact (Below.refl _ _).alloc (Nat.le_refl _) _ | exact ((Below.refl _ _).alloc (Nat.le_refl _) _).drew

set_option maxHeartbeats 1000000 in
theorem parts53 (b : Nat) (op : Int) (x : Value) (w : World) (hb : w.heap[b]? = some (.cells #[.int .u8 op, x] 55 (0, 0))) :
    Calls Try.prog 21 #[.iface 53 (.pointer (some ⟨b, 0, none⟩))] w fun e w' => e = .returned (.tuple #[.agg #[.int .u8 14, .int .u8 op, .bool false, .int .i64 0, .string ⟨#[]⟩, .string ⟨#[]⟩, .string ⟨#[]⟩], x, .nilIface, .slice none 0 0]) ∧ Below w.heap.size w w' := by
  obtain ⟨hc, hf⟩ := rowFacts hb
  have hlt := lt_of_heap hb
  have n48 := no48 53 (.pointer (some ⟨b, 0, none⟩)) (by decide)
  have n91 := no91 53 (.pointer (some ⟨b, 0, none⟩)) (by decide)
  have n95 := no95 53 (.pointer (some ⟨b, 0, none⟩)) (by decide)
  have n88 := no88 53 (.pointer (some ⟨b, 0, none⟩)) (by decide)
  have n98 := no98 53 (.pointer (some ⟨b, 0, none⟩)) (by decide)
  have n101 := no101 53 (.pointer (some ⟨b, 0, none⟩)) (by decide)
  have n83 := no83 53 (.pointer (some ⟨b, 0, none⟩)) (by decide)
  have n104 := no104 53 (.pointer (some ⟨b, 0, none⟩)) (by decide)
  have n108 := no108 53 (.pointer (some ⟨b, 0, none⟩)) (by decide)
  have n72 := no72 53 (.pointer (some ⟨b, 0, none⟩)) (by decide)
  have n67 := no67 53 (.pointer (some ⟨b, 0, none⟩)) (by decide)
  have n59 := no59 53 (.pointer (some ⟨b, 0, none⟩)) (by decide)
  have n63 := no63 53 (.pointer (some ⟨b, 0, none⟩)) (by decide)
  have y53 := yes53 (.pointer (some ⟨b, 0, none⟩))
  go_enter Try.func21, Try.ntmps21
  go_wp2
  go_region
  go_wp2
  refine bodyPost_ret (v := .tuple #[.agg #[.int .u8 14, .int .u8 op, .bool false, .int .i64 0, .string ⟨#[]⟩, .string ⟨#[]⟩, .string ⟨#[]⟩], x, .nilIface, .slice none 0 0]) (by simp [results, Try.results21, go_sem]) rfl ⟨rfl, ?_⟩
  first | exact (Below.refl _ _).alloc (Nat.le_refl _) _ | exact ((Below.refl _ _).alloc (Nat.le_refl _) _).drew

set_option maxHeartbeats 1000000 in
theorem parts39 (b : Nat) (op : Int) (x y : Value) (w : World) (hb : w.heap[b]? = some (.cells #[.int .u8 op, x, y] 42 (0, 0))) :
    Calls Try.prog 21 #[.iface 39 (.pointer (some ⟨b, 0, none⟩))] w fun e w' => e = .returned (.tuple #[.agg #[.int .u8 15, .int .u8 op, .bool false, .int .i64 0, .string ⟨#[]⟩, .string ⟨#[]⟩, .string ⟨#[]⟩], x, y, .slice none 0 0]) ∧ Below w.heap.size w w' := by
  obtain ⟨hc, hf⟩ := rowFacts hb
  have hlt := lt_of_heap hb
  have n48 := no48 39 (.pointer (some ⟨b, 0, none⟩)) (by decide)
  have n91 := no91 39 (.pointer (some ⟨b, 0, none⟩)) (by decide)
  have n95 := no95 39 (.pointer (some ⟨b, 0, none⟩)) (by decide)
  have n88 := no88 39 (.pointer (some ⟨b, 0, none⟩)) (by decide)
  have n98 := no98 39 (.pointer (some ⟨b, 0, none⟩)) (by decide)
  have n101 := no101 39 (.pointer (some ⟨b, 0, none⟩)) (by decide)
  have n83 := no83 39 (.pointer (some ⟨b, 0, none⟩)) (by decide)
  have n104 := no104 39 (.pointer (some ⟨b, 0, none⟩)) (by decide)
  have n108 := no108 39 (.pointer (some ⟨b, 0, none⟩)) (by decide)
  have n72 := no72 39 (.pointer (some ⟨b, 0, none⟩)) (by decide)
  have n67 := no67 39 (.pointer (some ⟨b, 0, none⟩)) (by decide)
  have n59 := no59 39 (.pointer (some ⟨b, 0, none⟩)) (by decide)
  have n63 := no63 39 (.pointer (some ⟨b, 0, none⟩)) (by decide)
  have n53 := no53 39 (.pointer (some ⟨b, 0, none⟩)) (by decide)
  have y39 := yes39 (.pointer (some ⟨b, 0, none⟩))
  go_enter Try.func21, Try.ntmps21
  go_wp2
  go_region
  go_wp2
  refine bodyPost_ret (v := .tuple #[.agg #[.int .u8 15, .int .u8 op, .bool false, .int .i64 0, .string ⟨#[]⟩, .string ⟨#[]⟩, .string ⟨#[]⟩], x, y, .slice none 0 0]) (by simp [results, Try.results21, go_sem]) rfl ⟨rfl, ?_⟩
  first | exact (Below.refl _ _).alloc (Nat.le_refl _) _ | exact ((Below.refl _ _).alloc (Nat.le_refl _) _).drew


end Go.Proofs.Qxb6615599a
