import Derived.Test.Qxb6615599aW6
namespace Go.Proofs.Qxb6615599a
open Go.RowKit
set_option linter.unusedVariables false
set_option maxRecDepth 100000

set_option maxHeartbeats 4000000 in
theorem fn6_tf (la lb : Bool) (lv lw op : Int) (w : World) (sl sk : Value) (L K : List St) (hs : StepsAt w sl L) (hk : StepsAt w sk K) (hbx : hasL la L = true) (hbY : hasL lb K = false) :
    Calls Try.prog 6 #[.bool la, .int .i64 lv, sl, .bool lb, .int .i64 lw, sk, .int .u8 op] w (TruePost6 w) := by
  have hmA := @modelB la true L hbx
  have hcA := @chainB la true L hbx
  have hmB := @modelB lb false K hbY
  have hcB := @chainB lb false K hbY
  clear hbx hbY
  go_enter Try.func6, Try.ntmps6
  go_wp2_with fail
  go_at_call 17
  refine (zz17 la lb lv lw op _ sl sk L K hs hk).mono ?_
  rintro e w1 ⟨⟨b, rfl⟩, rfl⟩
  cases b
  · go_wp2_with fail
    go_ret
    exact ⟨rfl, Below.refl _ _⟩
  · go_wp2_with fail
    go_at_call 8
    refine (addSteps_any 0 _ sl L hs).mono ?_
    rintro e w1 ⟨⟨n, rfl⟩, rfl⟩
    by_cases hn : (1048576 : Int) < n
    · go_wp2_with fail
      go_ret
      exact ⟨rfl, Below.refl _ _⟩
    · go_wp2_with fail
      go_at_call 8
      refine (addSteps_any n _ sk K hk).mono ?_
      rintro e w1 ⟨⟨n', rfl⟩, rfl⟩
      by_cases hn' : (1048576 : Int) < n'
      · go_wp2_with fail
        go_ret
        exact ⟨rfl, Below.refl _ _⟩
      · go_wp2_with fail
        go_at_call 10
        refine (hcA lv hs).mono ?_
        rintro e w1 ⟨T, a, rfl, hx, hb⟩
        go_wp2_with fail
        go_at_call 10
        refine (hcB lw (hk.mono hb)).mono ?_
        rintro e w2 ⟨T2, a2, rfl, hy, hb2⟩
        have h2 : Two (L.length + K.length + 1) _ _ _ _ _ w2 := ⟨Has.le (by omega) (hx.mono hb2), Has.le (by omega) hy, bnext hb hb2⟩
        clear hx hy hb hb2
        go_wp2_with fail
        go_at_call 15
        refine (call_x h2).mono ?_
        clear h2
        rintro e w3 ⟨rfl, h2⟩
        go_wp2_with fail
        go_at_call 15
        refine (call_y h2).mono ?_
        clear h2
        rintro e w3 ⟨rfl, h2⟩
        go_wp2_with fail
        go_at_call 16
        refine (hmA (hs.mono h2.hb)).mono ?_
        rintro e w4 ⟨rfl, rfl⟩
        go_wp2_with fail
        go_at_call 16
        refine (hmB (hk.mono h2.hb)).mono ?_
        rintro e w5 ⟨rfl, rfl⟩
        go_wp2_with fail
        go_at_call 15
        refine (call_bin op h2).mono ?_
        clear h2
        rintro e w6 ⟨rfl, h2⟩
        go_wp2_with fail
        go_at_call 15
        refine (call_in h2).mono ?_
        clear h2
        rintro e w6 ⟨rfl, h2⟩
        go_wp2_with fail
        go_at_call 15
        refine (call_like lw h2).mono ?_
        clear h2
        rintro e w6 ⟨rfl, h2⟩
        go_wp2_with fail
        go_at_call 15
        refine (call_likeN lv h2).mono ?_
        clear h2
        rintro e w6 ⟨rfl, h2⟩
        go_wp2_with fail
        go_at_call 15
        refine (call_un op h2).mono ?_
        clear h2
        rintro e w6 ⟨rfl, h2⟩
        go_wp2_with fail
        go_at_call 15
        refine (call_isNull h2).mono ?_
        clear h2
        rintro e w6 ⟨rfl, h2⟩
        go_wp2_with fail
        go_at_call 15
        refine (call_cast h2).mono ?_
        clear h2
        rintro e w6 ⟨rfl, h2⟩
        go_wp2_with fail
        go_at_call 15
        refine (call_interval h2).mono ?_
        clear h2
        rintro e w6 ⟨rfl, h2⟩
        go_wp2_with fail
        go_at_call 15
        refine (call_agg h2).mono ?_
        clear h2
        rintro e w6 ⟨rfl, h2⟩
        go_wp2_with fail
        go_ret
        exact ⟨rfl, h2.hb⟩

set_option maxHeartbeats 4000000 in
theorem fn6_tt (la lb : Bool) (lv lw op : Int) (w : World) (sl sk : Value) (L K : List St) (hs : StepsAt w sl L) (hk : StepsAt w sk K) (hbx : hasL la L = true) (hbY : hasL lb K = true) :
    Calls Try.prog 6 #[.bool la, .int .i64 lv, sl, .bool lb, .int .i64 lw, sk, .int .u8 op] w (TruePost6 w) := by
  have hmA := @modelB la true L hbx
  have hcA := @chainB la true L hbx
  have hmB := @modelB lb true K hbY
  have hcB := @chainB lb true K hbY
  clear hbx hbY
  go_enter Try.func6, Try.ntmps6
  go_wp2_with fail
  go_at_call 17
  refine (zz17 la lb lv lw op _ sl sk L K hs hk).mono ?_
  rintro e w1 ⟨⟨b, rfl⟩, rfl⟩
  cases b
  · go_wp2_with fail
    go_ret
    exact ⟨rfl, Below.refl _ _⟩
  · go_wp2_with fail
    go_at_call 8
    refine (addSteps_any 0 _ sl L hs).mono ?_
    rintro e w1 ⟨⟨n, rfl⟩, rfl⟩
    by_cases hn : (1048576 : Int) < n
    · go_wp2_with fail
      go_ret
      exact ⟨rfl, Below.refl _ _⟩
    · go_wp2_with fail
      go_at_call 8
      refine (addSteps_any n _ sk K hk).mono ?_
      rintro e w1 ⟨⟨n', rfl⟩, rfl⟩
      by_cases hn' : (1048576 : Int) < n'
      · go_wp2_with fail
        go_ret
        exact ⟨rfl, Below.refl _ _⟩
      · go_wp2_with fail
        go_at_call 10
        refine (hcA lv hs).mono ?_
        rintro e w1 ⟨T, a, rfl, hx, hb⟩
        go_wp2_with fail
        go_at_call 10
        refine (hcB lw (hk.mono hb)).mono ?_
        rintro e w2 ⟨T2, a2, rfl, hy, hb2⟩
        have h2 : Two (L.length + K.length + 1) _ _ _ _ _ w2 := ⟨Has.le (by omega) (hx.mono hb2), Has.le (by omega) hy, bnext hb hb2⟩
        clear hx hy hb hb2
        go_wp2_with fail
        go_at_call 15
        refine (call_x h2).mono ?_
        clear h2
        rintro e w3 ⟨rfl, h2⟩
        go_wp2_with fail
        go_at_call 15
        refine (call_y h2).mono ?_
        clear h2
        rintro e w3 ⟨rfl, h2⟩
        go_wp2_with fail
        go_at_call 16
        refine (hmA (hs.mono h2.hb)).mono ?_
        rintro e w4 ⟨rfl, rfl⟩
        go_wp2_with fail
        go_at_call 16
        refine (hmB (hk.mono h2.hb)).mono ?_
        rintro e w5 ⟨rfl, rfl⟩
        go_wp2_with fail
        go_at_call 15
        refine (call_bin op h2).mono ?_
        clear h2
        rintro e w6 ⟨rfl, h2⟩
        go_wp2_with fail
        go_at_call 15
        refine (call_in h2).mono ?_
        clear h2
        rintro e w6 ⟨rfl, h2⟩
        go_wp2_with fail
        go_at_call 15
        refine (call_like lw h2).mono ?_
        clear h2
        rintro e w6 ⟨rfl, h2⟩
        go_wp2_with fail
        go_at_call 15
        refine (call_likeN lv h2).mono ?_
        clear h2
        rintro e w6 ⟨rfl, h2⟩
        go_wp2_with fail
        go_at_call 15
        refine (call_un op h2).mono ?_
        clear h2
        rintro e w6 ⟨rfl, h2⟩
        go_wp2_with fail
        go_at_call 15
        refine (call_isNull h2).mono ?_
        clear h2
        rintro e w6 ⟨rfl, h2⟩
        go_wp2_with fail
        go_at_call 15
        refine (call_cast h2).mono ?_
        clear h2
        rintro e w6 ⟨rfl, h2⟩
        go_wp2_with fail
        go_at_call 15
        refine (call_interval h2).mono ?_
        clear h2
        rintro e w6 ⟨rfl, h2⟩
        go_wp2_with fail
        go_at_call 15
        refine (call_agg h2).mono ?_
        clear h2
        rintro e w6 ⟨rfl, h2⟩
        go_wp2_with fail
        go_ret
        exact ⟨rfl, h2.hb⟩

theorem fn6_any (la lb : Bool) (lv lw op : Int) (w : World) (sl sk : Value) (L K : List St) (hs : StepsAt w sl L) (hk : StepsAt w sk K) :
    Calls Try.prog 6 #[.bool la, .int .i64 lv, sl, .bool lb, .int .i64 lw, sk, .int .u8 op] w (TruePost6 w) := by
  cases hx : hasL la L <;> cases hy : hasL lb K
  · exact fn6_ff la lb lv lw op w sl sk L K hs hk hx hy
  · exact fn6_ft la lb lv lw op w sl sk L K hs hk hx hy
  · exact fn6_tf la lb lv lw op w sl sk L K hs hk hx hy
  · exact fn6_tt la lb lv lw op w sl sk L K hs hk hx hy

end Go.Proofs.Qxb6615599a
