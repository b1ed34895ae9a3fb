import Derived.Test.Qxb6615548aDoorZ
namespace Go.Proofs.Qxb6615548aDoor
open Go.RowKit
set_option linter.unusedVariables false
set_option maxRecDepth 100000

theorem hasM_mark (T : List UInt8) : hasM (mark ++ T) = true := by simp [hasM, mark]
theorem strip_mark (T : List UInt8) : strip (mark ++ T) = T := by
  unfold strip; rw [hasM_mark]; simp [mark]

theorem byte_is (a : UInt8) (n : Nat) (hn : n < 256) : (a == UInt8.ofNat n) = ((a.toNat : Int) == (n : Int)) := by
  rw [Bool.eq_iff_iff, beq_iff_eq, beq_iff_eq]
  constructor
  · rintro rfl; simp [Nat.mod_eq_of_lt hn]
  · intro h
    apply UInt8.toNat_inj.1
    simp [Nat.mod_eq_of_lt hn]; omega

theorem hasM_cons (a b c : UInt8) (r : List UInt8) : hasM (a :: b :: c :: r) = (((a.toNat : Int) == 239) && (((b.toNat : Int) == 187) && ((c.toNat : Int) == 191))) := by
  have h1 := byte_is a 239 (by omega)
  have h2 := byte_is b 187 (by omega)
  have h3 := byte_is c 191 (by omega)
  show ([a, b, c] == [239, 187, 191]) = _
  have e : ([a, b, c] == [239, 187, 191]) = ((a == UInt8.ofNat 239) && ((b == UInt8.ofNat 187) && ((c == UInt8.ofNat 191) && true))) := rfl
  rw [e, h1, h2, h3, Bool.and_true]; rfl

theorem ret_bool {a b : Bool} (h : a = b) : Ending.returned (.bool a) = .returned (.bool b) := by rw [h]

set_option maxHeartbeats 400000 in
theorem hasMark_any (T : List UInt8) (w : World) :
    Calls Tryd.prog 7 #[.string ⟨T.toArray⟩] w fun e w' => e = .returned (.bool (hasM T)) ∧ w' = w := by
  match T with
  | [] =>
    go_enter Tryd.func7, Tryd.ntmps7
    go_wp2
    go_ret
    exact ⟨rfl, rfl⟩
  | [a] =>
    go_enter Tryd.func7, Tryd.ntmps7
    go_wp2
    go_ret
    exact ⟨by simp [hasM, mark], rfl⟩
  | [a, b] =>
    go_enter Tryd.func7, Tryd.ntmps7
    go_wp2
    go_ret
    exact ⟨by simp [hasM, mark], rfl⟩
  | a :: b :: c :: r =>
    go_enter Tryd.func7, Tryd.ntmps7
    go_wp2
    · rename_i _ _ ha _ hb _
      have ha' : (a.toNat : Int) = 239 := ha
      have hb' : (b.toNat : Int) = 187 := hb
      go_ret
      refine ⟨ret_bool ?_, rfl⟩
      show ((c.toNat : Int) == 191) = _
      rw [hasM_cons]; simp [ha', hb']
    · rename_i _ _ ha _ hb
      have hb' : ¬ (b.toNat : Int) = 187 := hb
      go_ret
      refine ⟨ret_bool ?_, rfl⟩
      show false = _
      rw [hasM_cons]; simp [hb']
    · rename_i _ _ ha
      have ha' : ¬ (a.toNat : Int) = 239 := ha
      go_ret
      refine ⟨ret_bool ?_, rfl⟩
      show false = _
      rw [hasM_cons]; simp [ha']

end Go.Proofs.Qxb6615548aDoor
