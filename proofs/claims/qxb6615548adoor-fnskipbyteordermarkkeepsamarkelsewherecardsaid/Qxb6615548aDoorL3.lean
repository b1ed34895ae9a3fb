import Derived.Test.Qxb6615548aDoorL2
namespace Go.Proofs.Qxb6615548aDoor
open Go.RowKit
set_option linter.unusedVariables false
set_option maxRecDepth 100000

/-- A mark put in at place k. -/
def put (T : List UInt8) (k : Nat) : List UInt8 := T.take k ++ mark ++ T.drop k

theorem put_len (T : List UInt8) (k : Nat) (h : k ≤ T.length) : (put T k).length = T.length + 3 := by
  simp only [put, List.length_append, List.length_take, List.length_drop, mark]
  show min k T.length + 3 + (T.length - k) = _; omega

theorem hasM_nil : hasM [] = false := rfl
theorem hasM_one (a : UInt8) : hasM [a] = false := by simp [hasM, mark]
theorem hasM_two (a b : UInt8) : hasM [a, b] = false := by simp [hasM, mark]

theorem hasM_put_ge (T : List UInt8) (k : Nat) (h : 3 ≤ k) (hk : k ≤ T.length) : hasM (put T k) = hasM T := by
  unfold hasM put
  rw [List.append_assoc, List.take_append_of_le_length (by rw [List.length_take]; omega), List.take_take, Nat.min_eq_left h]

theorem hasM_put_lt (T : List UInt8) (k : Nat) (h0 : 0 < k) (h : k < 3) (hk : k ≤ T.length) : hasM (put T k) = false := by
  have : k = 1 ∨ k = 2 := by omega
  rcases this with rfl | rfl
  · match T, hk with
    | a :: r, _ =>
      show hasM (a :: 239 :: 187 :: 191 :: r) = false
      rw [hasM_cons]; simp
  · match T, hk with
    | a :: b :: r, _ =>
      show hasM (a :: b :: 239 :: 187 :: 191 :: r) = false
      rw [hasM_cons]; simp

theorem strip_put_ge (T : List UInt8) (k : Nat) (h : 3 ≤ k) (hk : k ≤ T.length) (hm : hasM T = true) : strip (put T k) = put (strip T) (k - 3) := by
  unfold strip
  rw [hasM_put_ge T k h hk, hm]
  simp only [if_true, put]
  rw [List.append_assoc, List.drop_append_of_le_length (by rw [List.length_take]; omega), List.drop_take, List.drop_drop, List.append_assoc]
  congr 3; omega

theorem strip_false (T : List UInt8) (h : hasM T = false) : strip T = T := by unfold strip; rw [h]; rfl

set_option maxHeartbeats 400000 in
theorem bytes4_yes (s : ByteArray) (k : Int) (w : World) (h : s.size ≤ 1048576) :
    Calls Tryd.prog 8 #[.string s, .int .i64 k] w fun e w' => e = .returned (.bool true) ∧ w' = w := by
  go_enter Tryd.func8, Tryd.ntmps8
  go_wp2
  go_ret
  exact ⟨rfl, rfl⟩

set_option maxHeartbeats 400000 in
theorem bytes4_no (s : ByteArray) (k : Int) (w : World) (h : 1048576 < s.size) :
    Calls Tryd.prog 8 #[.string s, .int .i64 k] w fun e w' => e = .returned (.bool false) ∧ w' = w := by
  go_enter Tryd.func8, Tryd.ntmps8
  go_wp2
  go_ret
  exact ⟨rfl, rfl⟩

end Go.Proofs.Qxb6615548aDoor
