import Derived.Test.Qxb6615599aBc
import Derived.Test.Qxb6615599aZz
namespace Go.Proofs.Qxb6615599a
open Go.RowKit
set_option linter.unusedVariables false
set_option maxRecDepth 100000

def TruePost (w : World) (e : Ending) (w' : World) : Prop := e = .returned (.bool true) ∧ Below w.heap.size w w'

set_option maxHeartbeats 2000000 in
theorem fn5_any (la : Bool) (lv : Int) (w : World) (sl : Value) (L : List St) (hs : StepsAt w sl L) :
    Calls Try.prog 5 #[.bool la, .int .i64 lv, sl] w (TruePost w) := by
  go_enter Try.func5, Try.ntmps5
  go_wp2_with (first
    | (go_at_call 14; refine (zz14 la lv _ sl L hs).mono ?_; rintro e w1 ⟨⟨b, rfl⟩, rfl⟩; cases b)
    | (go_at_call 8; refine (addSteps_any 0 _ sl L hs).mono ?_; rintro e w1 ⟨⟨n, rfl⟩, rfl⟩)
    | (go_at_call 10; refine (buildChain_any la lv _ sl L hs).mono ?_; rintro e w1 ⟨T, a, rfl, hh, hb⟩)
    | (go_at_call 15; refine (hasAggregate _ _ _ _ hh).mono ?_; rintro e w2 ⟨rfl, hb2⟩)
    | (go_at_call 16; refine (hasAggModel_any la _ sl L (hs.mono (by exact bnext hb hb2))).mono ?_; rintro e w3 ⟨rfl, rfl⟩))
  · go_ret
    exact ⟨rfl, Below.refl _ _⟩
  · go_ret
    exact ⟨rfl, Below.refl _ _⟩
  · go_ret
    exact ⟨rfl, bnext hb hb2⟩

end Go.Proofs.Qxb6615599a
