import Derived.Test.Qxb6615548aDoorL1
namespace Go.Proofs.Qxb6615548aDoor
open Go.RowKit
set_option linter.unusedVariables false
set_option maxRecDepth 100000

theorem zz_at (s : ByteArray) (X : List UInt8) (m : Bool) (h1 : strip s.data.toList = X) (h2 : hasM s.data.toList = m) (w : World) (hs : s.size ≤ 2097152) (ae : Addr) (hE : w.cell? ⟨0, 0, none⟩ = some (.iface 53 (.pointer (some ae)))) :
    Calls Tryd.prog 6 #[.string s] w fun e w' => e = .returned (.tuple #[.string ⟨X.toArray⟩, .bool m]) ∧ Below w.heap.size w w' := by
  subst h1 h2
  exact zz_any s w hs ae hE

theorem hasM_len {T : List UInt8} (h : hasM T = true) : 3 ≤ T.length := by
  have h' : (T.take 3 == mark) = true := h
  have := congrArg List.length (eq_of_beq h')
  rw [List.length_take] at this
  simp [mark] at this; omega

theorem toList_data (s : ByteArray) : s.toList = s.data.toList := ByteArray.toList_eq s

theorem cat_data (a b : ByteArray) : (a ++ b).data.toList = a.data.toList ++ b.data.toList := by
  rw [ByteArray.data_append]; simp

set_option maxHeartbeats 800000 in
theorem law3 (T : List UInt8) (w : World) (ae : Addr) (hE : w.cell? ⟨0, 0, none⟩ = some (.iface 53 (.pointer (some ae)))) :
    Calls Tryd.prog 3 #[.string ⟨T.toArray⟩] w fun e w' => e = .returned (.bool true) ∧ Below w.heap.size w w' := by
  have h0 : 0 < w.heap.size := by have := block_lt_of_cell hE; simpa using this
  have hsz : (⟨T.toArray⟩ : ByteArray).size = T.length := by simp [ByteArray.size]
  by_cases hbig : T.length ≤ 1048576
  · go_enter Tryd.func3, Tryd.ntmps3
    go_wp2_with fail
    refine (bytes1_yes _ w (by rw [hsz]; exact hbig)).mono ?_
    rintro e w1 ⟨rfl, rfl⟩
    go_wp2_with fail
    refine (zz_at _ T true (by rw [cat_data]; exact strip_mark T) (by rw [cat_data]; exact hasM_mark T) _ (by rw [ByteArray.size_append, hsz]; show 3 + _ ≤ _; omega) ae hE).mono ?_
    rintro e w2 ⟨rfl, hb2⟩
    have hE2 := (hb2.cell (p := ⟨0, 0, none⟩) h0).trans hE
    go_wp2_with fail
    refine (zz_at _ (strip T) (hasM T) rfl rfl _ (by rw [hsz]; omega) ae hE2).mono ?_
    rintro e w3 ⟨rfl, hb3⟩
    have hbb : Below w1.heap.size w1 w3 := hb2.trans (hb3.mono hb2.size)
    go_wp2_with fail
    refine (hasMark_any T _).mono ?_
    rintro e w4 ⟨rfl, rfl⟩
    have hstrip : Hid (strip T = if hasM T then T.drop 3 else T) := rfl
    cases hm : hasM T with
    | true =>
      have h3 := hasM_len hm
      have h3i : (3 : Int) ≤ (T.length : Int) := by omega
      go_wp2_with fail
      go_ret
      refine ⟨ret_bool ?_, hbb⟩
      show (strip T == (ByteArray.extract ⟨T.toArray⟩ 3 T.length).toList) = true
      have e : (ByteArray.extract ⟨T.toArray⟩ 3 T.length).toList = T.drop 3 := by
        rw [toList_data, ByteArray.data_extract, Array.toList_extract]
        simp only [List.extract_eq_take_drop]
        exact List.take_of_length_le (by rw [List.length_drop]; exact Nat.le_refl _)
      rw [e, hstrip.out, hm]; simp
    | false =>
      go_wp2_with fail
      go_ret
      refine ⟨ret_bool ?_, hbb⟩
      show (strip T == T) = true
      rw [hstrip.out, hm]; simp
  · go_enter Tryd.func3, Tryd.ntmps3
    go_wp2_with fail
    refine (bytes1_no _ w (by rw [hsz]; omega)).mono ?_
    rintro e w1 ⟨rfl, rfl⟩
    go_wp2_with fail
    go_ret
    exact ⟨rfl, Below.refl _ _⟩

end Go.Proofs.Qxb6615548aDoor
