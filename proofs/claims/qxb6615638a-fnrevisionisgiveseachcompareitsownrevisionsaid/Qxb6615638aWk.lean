import Derived.Test.Qxb6615638aProg
import Derived.WalkKit
import Derived.WalkSpells
import Derived.WalkLawsBesides
import Derived.Deep.QuietTactic
import Derived.BigQuiet
namespace Go.Proofs.Qxb6615638a
open Go.RowKit
set_option maxRecDepth 100000

set_option maxHeartbeats 400000 in
theorem revisionIs_any (k : ByteArray) (n : Int) (w : World) :
    Calls Try.prog 5 #[.string k, .int .u64 n] w fun e w' => e = .returned (.agg #[.string k, .pointer (some ⟨w.heap.size, 0, none⟩), .pointer none]) ∧
      w' = (w.alloc (.cells #[.int .u64 n] 22)).alloc (.cells #[.string k, .pointer (some ⟨w.heap.size, 0, none⟩), .pointer none] 29) := by
  go_enter Try.func5, Try.ntmps5
  go_wp2
  exact bodyPost_ret (v := .agg #[.string k, .pointer (some ⟨w.heap.size, 0, none⟩), .pointer none]) (by simp [results, Try.results5, go_sem]) rfl ⟨rfl, rfl⟩

set_option maxHeartbeats 400000 in
theorem parts_any (k : ByteArray) (a b : Option Addr) (w : World) :
    Calls Try.prog 6 #[.agg #[.string k, .pointer a, .pointer b]] w fun e w' => e = .returned (.tuple #[.string k, .pointer a, .pointer b]) ∧
      ∃ m, w' = (w.alloc (.cells #[.string k, .pointer a, .pointer b] 29)).drewN m := by
  go_enter Try.func6, Try.ntmps6
  go_wp2
  go_quiet (fail)
  go_wp2
  go_ret3
  exact ⟨rfl, _, rfl⟩

end Go.Proofs.Qxb6615638a
