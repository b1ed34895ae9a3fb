import Derived.Test.Qxb6615548aDoorL3
namespace Go.Proofs.Qxb6615548aDoor
open Go.RowKit
set_option linter.unusedVariables false
set_option maxRecDepth 100000

set_option maxHeartbeats 800000 in
theorem law4_out (T : List UInt8) (k : Int) (w : World) (hk : T.length ≤ 1048576 → k < 0 ∨ (T.length : Int) < k) :
    Calls Tryd.prog 4 #[.string ⟨T.toArray⟩, .int .i64 k] w fun e w' => e = .returned (.bool true) ∧ Below w.heap.size w w' := by
  have hsz : (⟨T.toArray⟩ : ByteArray).size = T.length := by simp [ByteArray.size]
  by_cases hbig : T.length ≤ 1048576
  · rcases hk hbig with h | h
    all_goals
      go_enter Tryd.func4, Tryd.ntmps4
      go_wp2_with fail
      refine (bytes4_yes _ k w (by rw [hsz]; exact hbig)).mono ?_
      rintro e w1 ⟨rfl, rfl⟩
      go_wp2_with fail
      all_goals
        go_ret
        exact ⟨rfl, Below.refl _ _⟩
  · go_enter Tryd.func4, Tryd.ntmps4
    go_wp2_with fail
    refine (bytes4_no _ k w (by rw [hsz]; omega)).mono ?_
    rintro e w1 ⟨rfl, rfl⟩
    go_wp2_with fail
    go_ret
    exact ⟨rfl, Below.refl _ _⟩

theorem ext_data {a b : ByteArray} (h : a.data.toList = b.data.toList) : a = b := by
  cases a; cases b
  simp only at h
  congr 1
  exact Array.ext' h

theorem mk_put (T : List UInt8) (k : Nat) (hk : k ≤ T.length) :
    (ByteArray.extract ⟨T.toArray⟩ 0 k ++ (⟨#[239, 187, 191]⟩ : ByteArray) ++ ByteArray.extract ⟨T.toArray⟩ k T.length) = ⟨(put T k).toArray⟩ := by
  apply ext_data
  rw [cat_data, cat_data, ByteArray.data_extract, ByteArray.data_extract, Array.toList_extract, Array.toList_extract, List.extract_eq_take_drop, List.extract_eq_take_drop]
  unfold put mark
  simp only [List.drop_zero, Nat.sub_zero]
  rw [List.take_of_length_le (l := T.drop k) (by rw [List.length_drop]; exact Nat.le_refl _)]

theorem eq_str (X Y : List UInt8) (h : X = Y) : (X == Y) = true := by rw [h]; simp

set_option maxHeartbeats 1600000 in
theorem law4_in (T : List UInt8) (k : Nat) (w : World) (hbig : T.length ≤ 1048576) (hk : k ≤ T.length) (ae : Addr) (hE : w.cell? ⟨0, 0, none⟩ = some (.iface 53 (.pointer (some ae)))) :
    Calls Tryd.prog 4 #[.string ⟨T.toArray⟩, .int .i64 k] w fun e w' => e = .returned (.bool true) ∧ Below w.heap.size w w' := by
  have h0 : 0 < w.heap.size := by have := block_lt_of_cell hE; simpa using this
  have hsz : (⟨T.toArray⟩ : ByteArray).size = T.length := by simp [ByteArray.size]
  have hk0 : (0 : Int) ≤ (k : Int) := by omega
  have hk1 : (k : Int) ≤ (T.length : Int) := by omega
  have hk2 : ¬ ((k : Int) < 0) := by omega
  have hk3 : ¬ ((T.length : Int) < (k : Int)) := by omega
  go_enter Tryd.func4, Tryd.ntmps4
  go_wp2_with fail
  refine (bytes4_yes _ k w (by rw [hsz]; exact hbig)).mono ?_
  rintro e w1 ⟨rfl, rfl⟩
  go_wp2_with fail
  go_quiet (fail)
  go_wp2_with fail
  rw [mk_put T k hk]
  have hpl := put_len T k hk
  have hsp : (⟨(put T k).toArray⟩ : ByteArray).size = T.length + 3 := by simp [ByteArray.size, hpl]
  by_cases hz : k = 0
  · subst hz
    have hp0 : put T 0 = mark ++ T := by simp [put]
    refine (zz_at _ T true (by show strip (put T 0) = T; rw [hp0]; exact strip_mark T) (by show hasM (put T 0) = true; rw [hp0]; exact hasM_mark T) _ (by rw [hsp]; omega) ae (by exact hE)).mono ?_
    rintro e w2 ⟨rfl, hb2⟩
    go_wp2_with fail
    go_ret
    refine ⟨rfl, ?_⟩
    exact ⟨hb2.os, hb2.tape, hb2.output, hb2.size, hb2.block⟩
  · have hz' : ((k : Int) == 0) = false := by simp; omega
    refine (zz_at _ (strip (put T k)) (hasM (put T k)) rfl rfl _ (by rw [hsp]; omega) ae (by exact hE)).mono ?_
    rintro e w2 ⟨rfl, hb2⟩
    have hE2 := (hb2.cell (p := ⟨0, 0, none⟩) h0).trans hE
    go_wp2_with fail
    refine (zz_at _ (strip T) (hasM T) rfl rfl _ (by rw [hsz]; omega) ae hE2).mono ?_
    rintro e w3 ⟨rfl, hb3⟩
    have hbb : Below w1.heap.size w1 w3 := by
      have h1 : Below w1.heap.size w1 w2 := ⟨hb2.os, hb2.tape, hb2.output, hb2.size, hb2.block⟩
      exact h1.trans (hb3.mono h1.size)
    clear hb2 hb3 hE2 hE hpl hsp
    cases hm : hasM T with
    | false =>
      have hpm : hasM (put T k) = false := by
        by_cases h3 : 3 ≤ k
        · rw [hasM_put_ge T k h3 hk, hm]
        · exact hasM_put_lt T k (by omega) (by omega) hk
      rw [hpm, strip_false _ hpm, strip_false _ hm]
      generalize hP : put T k = P at *
      have HP : Hid (put T k = P) := hP
      clear hP hpm hm
      go_wp2_with fail
      go_quiet (fail)
      go_wp2
      go_ret
      refine ⟨ret_bool ?_, ⟨hbb.os, hbb.tape, hbb.output, hbb.size, hbb.block⟩⟩
      show (P == (ByteArray.extract ⟨T.toArray⟩ 0 k ++ (⟨#[239, 187, 191]⟩ : ByteArray) ++ ByteArray.extract ⟨T.toArray⟩ k T.length).toList) = true
      rw [mk_put T k hk, toList_data, HP.out]; simp
    | true =>
      have h3' := hasM_len hm
      by_cases h3 : 3 ≤ k
      · rw [hasM_put_ge T k h3 hk, hm, strip_put_ge T k h3 hk hm]
        have hst : strip T = T.drop 3 := by unfold strip; rw [hm]; rfl
        rw [hst]
        have hdl : (T.drop 3).length = T.length - 3 := List.length_drop
        have hkd : k - 3 ≤ (T.drop 3).length := by omega
        generalize T.drop 3 = D at *
        generalize hP : put D (k - 3) = P at *
        have HP : Hid (put D (k - 3) = P) := hP
        obtain ⟨j, rfl⟩ : ∃ j, k = j + 3 := ⟨k - 3, by omega⟩
        clear hP hm hst
        go_wp2_with fail
        have hj0 : (0 : Int) ≤ (j : Int) := by omega
        have hj1 : (j : Int) ≤ (D.length : Int) := by omega
        have hj2 : j ≤ D.length := by omega
        have hwj : IntKind.i64.wrap ((j : Int) + 3 - 3) = j := by rw [IntKind.wrap_i64]; omega
        have hwj2 : IntKind.i64.wrap (j : Int) = j := by rw [IntKind.wrap_i64]; omega
        go_quiet (fail)
        clear hwj hwj2
        go_wp2
        go_ret
        refine ⟨ret_bool ?_, ⟨hbb.os, hbb.tape, hbb.output, hbb.size, hbb.block⟩⟩
        show (P == (ByteArray.extract ⟨D.toArray⟩ 0 j ++ (⟨#[239, 187, 191]⟩ : ByteArray) ++ ByteArray.extract ⟨D.toArray⟩ j (T.length - 3)).toList) = true
        rw [← hdl, mk_put D j hj2, toList_data, ← HP.out]; simp
      · have hpm := hasM_put_lt T k (by omega) (by omega) hk
        rw [hpm, strip_false _ hpm]
        have hk4 : (k : Int) < 3 := by omega
        generalize put T k = P at *
        clear hpm hm
        go_wp2_with fail
        go_ret
        exact ⟨by simp, hbb⟩

end Go.Proofs.Qxb6615548aDoor
