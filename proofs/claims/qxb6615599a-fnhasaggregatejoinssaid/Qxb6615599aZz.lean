import Derived.Test.Qxb6615599aSt
namespace Go.Proofs.Qxb6615599a
open Go.RowKit
set_option linter.unusedVariables false
set_option maxRecDepth 100000

def AddRel (w : World) (L : List St) (k : Nat) (v0 v5 : Value) (wr : World) : Prop := ∃ (i : Nat) (t : Int), v0 = .int .i64 t ∧ v5 = .int .i64 i ∧ i + k = L.length ∧ wr = w

set_option maxHeartbeats 1000000 in
theorem addSteps_any (t : Int) (w : World) (sl : Value) (L : List St) (hs : StepsAt w sl L) :
    Calls Try.prog 8 #[.int .i64 t, sl] w fun e w' => (∃ n, e = .returned (.int .i64 n)) ∧ w' = w := by
  obtain ⟨p, c, rfl, hmax, _⟩ := id hs
  go_enter Try.func8, Try.ntmps8
  go_wp2
  go_loopg [0, 5] L.length (fun k v0 v5 wr => AddRel w L k v0 v5 wr)
  case atStart => exact ⟨0, t, rfl, rfl, by omega, rfl⟩
  case round =>
    obtain ⟨i, t', rfl, rfl, hik, rfl⟩ := hrel
    cases gk with
    | zero =>
      have hi : i = L.length := by omega
      subst hi
      go_wp2
      go_ret
      exact ⟨⟨_, rfl⟩, rfl⟩
    | succ k' =>
      have hi : i < L.length := by omega
      obtain ⟨st, hst⟩ : ∃ x, L[i]? = some x := ⟨_, List.getElem?_eq_getElem hi⟩
      obtain ⟨g, o, rfl, h0, h1, h2, h3, h4, h5, h6⟩ := hs.at hst
      obtain ⟨op, un, call, agg, str, v, s⟩ := st
      simp only at h0 h1 h2 h3 h4 h5 h6
      go_wp2
      all_goals first
        | (go_ret; exact ⟨⟨_, rfl⟩, rfl⟩)
        | (go_roundg k'
           case measure => omega
           case rel => exact ⟨i + 1, _, rfl, by go_num, by omega, rfl⟩)

def RetBool (w : World) (e : Ending) (w' : World) : Prop := (∃ b, e = .returned (.bool b)) ∧ w' = w

def ZRel (w : World) (L : List St) (k : Nat) (v7 v8 : Value) (wr : World) : Prop := ∃ (i : Nat) (t : Int), v7 = .int .i64 t ∧ v8 = .int .i64 i ∧ i + k = L.length ∧ 0 ≤ t ∧ t ≤ 1048576 ∧ wr = w

set_option maxHeartbeats 1000000 in
theorem zz14 (la : Bool) (lv : Int) (w : World) (sl : Value) (L : List St) (hs : StepsAt w sl L) :
    Calls Try.prog 14 #[.bool la, .int .i64 lv, sl] w (RetBool w) := by
  obtain ⟨p, c, rfl, hmax, _⟩ := id hs
  by_cases hL : (1048576 : Int) < (L.length : Int)
  · go_enter Try.func14, Try.ntmps14
    go_wp2
    go_ret
    exact ⟨⟨_, rfl⟩, rfl⟩
  · go_enter Try.func14, Try.ntmps14
    go_wp2
    go_loopg [7, 8] L.length (fun k v7 v8 wr => ZRel w L k v7 v8 wr)
    case atStart => exact ⟨0, _, rfl, rfl, by omega, by omega, by omega, rfl⟩
    case round =>
      obtain ⟨i, t', rfl, rfl, hik, ht0, ht1, rfl⟩ := hrel
      cases gk with
      | zero =>
        have hi : i = L.length := by omega
        subst hi
        go_wp2
        go_ret
        exact ⟨⟨_, rfl⟩, rfl⟩
      | succ k' =>
        have hi : i < L.length := by omega
        obtain ⟨st, hst⟩ : ∃ x, L[i]? = some x := ⟨_, List.getElem?_eq_getElem hi⟩
        obtain ⟨g, o, rfl, h0, h1, h2, h3, h4, h5, h6⟩ := hs.at hst
        obtain ⟨op, un, call, agg, str, v, s⟩ := st
        simp only at h0 h1 h2 h3 h4 h5 h6
        have hsz : (0 : Int) ≤ (s.size : Int) := by omega
        by_cases hs1 : (1048576 : Int) < (s.size : Int)
        · go_wp2
          go_ret
          exact ⟨⟨_, rfl⟩, rfl⟩
        · by_cases hs2 : (1048576 : Int) < t' + (s.size : Int)
          · go_wp2
            go_ret
            exact ⟨⟨_, rfl⟩, rfl⟩
          · go_wp2
            go_roundg k'
            case measure => omega
            case rel => exact ⟨i + 1, t' + s.size, by go_num, by go_num, by omega, by omega, by omega, rfl⟩

set_option maxHeartbeats 2000000 in
theorem zz17 (la lb : Bool) (lv lw op : Int) (w : World) (sl sk : Value) (L K : List St) (hs : StepsAt w sl L) (hk : StepsAt w sk K) :
    Calls Try.prog 17 #[.bool la, .int .i64 lv, sl, .bool lb, .int .i64 lw, sk, .int .u8 op] w (RetBool w) := by
  obtain ⟨p, c, rfl, hmax, _⟩ := id hs
  obtain ⟨q, d, rfl, hmaxk, _⟩ := id hk
  by_cases hL : (1048576 : Int) < (L.length : Int)
  · go_enter Try.func17, Try.ntmps17
    go_wp2
    go_ret
    exact ⟨⟨_, rfl⟩, rfl⟩
  · go_enter Try.func17, Try.ntmps17
    go_wp2
    go_loopg [15, 16] L.length (fun k v7 v8 wr => ZRel w L k v7 v8 wr)
    case atStart => exact ⟨0, _, rfl, rfl, by omega, by omega, by omega, rfl⟩
    case round =>
      obtain ⟨i, t', rfl, rfl, hik, ht0, ht1, rfl⟩ := hrel
      cases gk with
      | zero =>
        have hi : i = L.length := by omega
        subst hi
        by_cases hK : (1048576 : Int) < (K.length : Int)
        · go_wp2
          go_ret
          exact ⟨⟨_, rfl⟩, rfl⟩
        · by_cases hK2 : (1048576 : Int) < t' + (K.length : Int)
          · go_wp2
            go_ret
            exact ⟨⟨_, rfl⟩, rfl⟩
          · go_wp2
            go_loopg [15, 17] K.length (fun k v7 v8 wx => ZRel wr K k v7 v8 wx)
            case atStart => exact ⟨0, _, rfl, rfl, by omega, by omega, by omega, rfl⟩
            case round =>
              obtain ⟨i, t', rfl, rfl, hik, ht0, ht1, rfl⟩ := hrel
              cases gk with
              | zero =>
                have hi : i = K.length := by omega
                subst hi
                go_wp2
                go_ret
                exact ⟨⟨_, rfl⟩, rfl⟩
              | succ k' =>
                have hi : i < K.length := by omega
                obtain ⟨st, hst⟩ : ∃ x, K[i]? = some x := ⟨_, List.getElem?_eq_getElem hi⟩
                obtain ⟨g, o, rfl, h0, h1, h2, h3, h4, h5, h6⟩ := hk.at hst
                obtain ⟨op, un, call, agg, str, v, s⟩ := st
                simp only at h0 h1 h2 h3 h4 h5 h6
                have hsz : (0 : Int) ≤ (s.size : Int) := by omega
                by_cases hs1 : (1048576 : Int) < (s.size : Int)
                · go_wp2
                  go_ret
                  exact ⟨⟨_, rfl⟩, rfl⟩
                · by_cases hs2 : (1048576 : Int) < t' + (s.size : Int)
                  · go_wp2
                    go_ret
                    exact ⟨⟨_, rfl⟩, rfl⟩
                  · go_wp2
                    go_roundg k'
                    case measure => omega
                    case rel => exact ⟨i + 1, t' + s.size, by go_num, by go_num, by omega, by omega, by omega, rfl⟩

      | succ k' =>
        have hi : i < L.length := by omega
        obtain ⟨st, hst⟩ : ∃ x, L[i]? = some x := ⟨_, List.getElem?_eq_getElem hi⟩
        obtain ⟨g, o, rfl, h0, h1, h2, h3, h4, h5, h6⟩ := hs.at hst
        obtain ⟨op, un, call, agg, str, v, s⟩ := st
        simp only at h0 h1 h2 h3 h4 h5 h6
        have hsz : (0 : Int) ≤ (s.size : Int) := by omega
        by_cases hs1 : (1048576 : Int) < (s.size : Int)
        · go_wp2
          go_ret
          exact ⟨⟨_, rfl⟩, rfl⟩
        · by_cases hs2 : (1048576 : Int) < t' + (s.size : Int)
          · go_wp2
            go_ret
            exact ⟨⟨_, rfl⟩, rfl⟩
          · go_wp2
            go_roundg k'
            case measure => omega
            case rel => exact ⟨i + 1, t' + s.size, by go_num, by go_num, by omega, by omega, by omega, rfl⟩

end Go.Proofs.Qxb6615599a
