import Derived.Test.Qxb6615548aDoorT5
import Derived.Test.Qxb6615548aDoorT6
import Derived.Test.Qxb6615548aDoorT7
import Derived.Test.Qxb6615548aDoorT8
namespace Go.Proofs.Qxb6615548aDoor
open Go.RowKit
set_option linter.unusedVariables false
set_option maxRecDepth 100000

theorem peek_any (R B U : Nat) (s : ByteArray) (lb lr : Int) (buf : List Value) (k : Nat) (hk : k = min 4096 s.size) (w : World) (hs : s.size ≤ 2097152)
    (hR : w.heap[R]? = some (.cells #[.string s, .int .i64 0, .int .i64 (-1)] 43 (0, 0)))
    (hB : w.heap[B]? = some (.cells #[.slice (some ⟨U, 0, none⟩) 4096 4096, .iface 30 (.pointer (some ⟨R, 0, none⟩)), .int .i64 0, .int .i64 0, .nilIface, .int .i64 lb, .int .i64 lr] 48 (0, 0)))
    (hU : w.heap[U]? = some (.cells buf.toArray 5 (0, 0))) (hbl : buf.length = 4096) (E : TypeId) (ev : Value) (hE : w.cell? ⟨0, 0, none⟩ = some (.iface E ev)) (hRpos : 0 < R) (hBpos : 0 < B) (hUpos : 0 < U) :
    Calls Tryd.prog 13 #[.pointer (some ⟨B, 0, none⟩), .int .i64 3] w fun e w' => ∃ (er : Value) (buf' : List Value), e = .returned (.tuple #[.slice (some ⟨U, 0, none⟩) (min 3 s.size) 4096, er]) ∧
      w'.heap[R]? = some (.cells #[.string s, .int .i64 k, .int .i64 (-1)] 43 (0, 0)) ∧
      w'.heap[B]? = some (.cells #[.slice (some ⟨U, 0, none⟩) 4096 4096, .iface 30 (.pointer (some ⟨R, 0, none⟩)), .int .i64 0, .int .i64 k, .nilIface, .int .i64 (-1), .int .i64 (-1)] 48 (0, 0)) ∧
      w'.heap[U]? = some (.cells buf'.toArray 5 (0, 0)) ∧ buf'.length = 4096 ∧ buf'.take k = bytesV (s.data.toList.take k) ∧ Chg (fun k => k = R ∨ k = B ∨ k = U) w w' ∧ w'.heap.size = w.heap.size := by
  have hsz : s.data.toList.length = s.size := Array.length_toList
  have hbl' : (splice buf 0 (bytesV (s.data.toList.take 4096))).length = 4096 := by rw [length_splice, hbl]; rw [length_bytesV, List.length_take]; omega
  have hbt : (splice buf 0 (bytesV (s.data.toList.take 4096))).take k = bytesV (s.data.toList.take k) := by
    rw [take_splice _ _ _ (by rw [length_bytesV, List.length_take]; omega), take_bytesV, List.take_take]
    congr 2; omega
  by_cases h3 : 3 ≤ s.size
  · refine (peek_three R B U s lb lr buf k hk w hs h3 hR hB hU hbl).mono ?_
    rintro e w' ⟨rfl, h1, h2, h3', h4, h5⟩
    refine ⟨.nilIface, _, ?_, h1, h2, h3', hbl', hbt, h4, h5⟩
    rw [Nat.min_eq_left h3]
  · by_cases h0 : s.size = 0
    · have hk0 : k = 0 := by omega
      subst hk0
      refine (peek_zero R B U s lb lr w h0 hR hB E ev hE hBpos).mono ?_
      rintro e w' ⟨rfl, h1, h2, h3'⟩
      refine ⟨.iface E ev, buf, ?_, h2.heap hR (Ne.symm (ne_of_types hB hR (by decide))), h1, h2.heap hU (Ne.symm (ne_of_types hB hU (by decide))), hbl, by simp [bytesV], h2.mono (fun k _ h => Or.inr (Or.inl h)), h3'⟩
      rw [h0]; rfl
    · have hk0 : k = s.size := by omega
      refine (peek_short R B U s lb lr buf k hk0 w (by omega) (by omega) hR hB hU hbl E ev hE hRpos hBpos hUpos).mono ?_
      rintro e w' ⟨rfl, h1, h2, h3', h4, h5⟩
      refine ⟨.iface E ev, _, ?_, h1, h2, h3', hbl', hbt, h4, h5⟩
      rw [hk0, Nat.min_eq_right (by omega)]

/-- The mark's three bytes; does a text begin with them? -/
def mark : List UInt8 := [239, 187, 191]
def hasM (T : List UInt8) : Bool := T.take 3 == mark

/-- What lies behind SkipByteOrderMark: the reader R of s, k of its bytes read; the buffered reader B over it; its buffer. -/
def Skipped (w : World) (R B : Nat) (s : ByteArray) (k : Nat) (m : Bool) (w' : World) : Prop := ∃ buf' : List Value,
      w'.heap[R]? = some (.cells #[.string s, .int .i64 k, .int .i64 (-1)] 43 (0, 0)) ∧
      w'.heap[B]? = some (.cells #[.slice (some ⟨B + 1, 0, none⟩) 4096 4096, .iface 30 (.pointer (some ⟨R, 0, none⟩)), .int .i64 (if m then 3 else 0 : Nat), .int .i64 k, .nilIface, .int .i64 (-1), .int .i64 (-1)] 48 (0, 0)) ∧
      w'.heap[B + 1]? = some (.cells buf'.toArray 5 (0, 0)) ∧ buf'.length = 4096 ∧ buf'.take k = bytesV (s.data.toList.take k) ∧ Chg (fun k => k = R) w w'

set_option maxHeartbeats 800000 in
theorem skip_any (R : Nat) (s : ByteArray) (k : Nat) (hk : k = min 4096 s.size) (w : World) (hs : s.size ≤ 2097152)
    (hR : w.heap[R]? = some (.cells #[.string s, .int .i64 0, .int .i64 (-1)] 43 (0, 0)))
    (E : TypeId) (ev : Value) (hE : w.cell? ⟨0, 0, none⟩ = some (.iface E ev)) (hRpos : 0 < R) :
    Calls Tryd.prog 9 #[.iface 30 (.pointer (some ⟨R, 0, none⟩))] w fun e w' => e = .returned (.tuple #[.iface 37 (.pointer (some ⟨w.heap.size, 0, none⟩)), .bool (hasM s.data.toList)]) ∧ Skipped w R w.heap.size s k (hasM s.data.toList) w' := by
  have hRlt := lt_of_heap hR
  go_enter Tryd.func9, Tryd.ntmps9
  go_wp2_with fail
  refine (newReader15 R w).mono ?_
  rintro e w1 ⟨rfl, hB1, hU1, hc1⟩
  have hR1 := hc1.heap hR (fun h => h)
  have hE1 := hc1.cell hE (fun h => h)
  have hsz1 : w.heap.size + 1 < w1.heap.size := lt_of_heap hU1
  generalize hB : w.heap.size = B at *
  have HB : Hid (w.heap.size = B) := hB
  clear hB
  go_wp2_with fail
  refine (peek_any R B (B + 1) s (-1) (-1) (zs 4096) k hk w1 hs hR1 hB1 hU1 (length_zs _) E ev hE1 hRpos (by omega) (by omega)).mono ?_
  rintro e w2 ⟨er, buf', rfl, hR2, hB2, hU2, hbl, hbt, hc2, hz2⟩
  have hTl : s.data.toList.length = s.size := Array.length_toList
  have hcv := run_string_of_row (P := Tryd.prog) w2 32 9 5 5 Tryd.underlying32 Tryd.underlying5 Tryd.underlying9 (B + 1) (min 3 s.size) 4096 buf' hU2 (s.data.toList.take 3) (by rw [List.length_take, hTl]) (by
    have e : min 3 s.size = min (min 3 s.size) k := by omega
    rw [e, ← List.take_take, hbt, take_bytesV, List.take_take]
    congr 1
    rw [List.take_eq_take_iff]; omega)
  have hm : hasM s.data.toList = (s.data.toList.take 3 == mark) := rfl
  have hl3 : (s.data.toList.take 3).length = min 3 s.size := by rw [List.length_take, hTl]
  generalize hT : s.data.toList.take 3 = t3 at *
  have hT3 : Hid (s.data.toList.take 3 = t3) := hT
  clear hT
  generalize min 3 s.size = m at *
  have HK : Hid (k = min 4096 s.size) := hk
  clear hk
  cases hmm : hasM s.data.toList with
  | true =>
    rw [hmm] at hm
    have h3 : t3 = [239, 187, 191] := by simpa [mark] using hm.symm
    subst h3
    obtain rfl : m = 3 := by simpa using hl3.symm
    clear hm hl3
    go_wp2_with fail
    have hk3 : 3 ≤ k := by
      have := congrArg List.length hT3.out
      rw [List.length_take, hTl] at this
      simp at this; have := HK.out; omega
    refine (discard_three B _ _ _ (-1) (-1) k hk3 (by have := HK.out; omega) w2 hB2).mono ?_
    rintro e w3 ⟨rfl, hB3, hc3, hz3⟩
    go_wp2
    go_ret2
    refine ⟨by rw [HB.out, hmm]; rfl, ?_⟩
    unfold Skipped
    rw [HB.out, hmm]
    refine ⟨buf', hc3.heap hR2 (by show ¬ R = B; omega), hB3, hc3.heap hU2 (by show ¬ B + 1 = B; omega), hbl, hbt, ?_⟩
    exact ⟨by rw [hc3.os, hc2.os, hc1.os], by rw [hc3.tape, hc2.tape, hc1.tape], by rw [hc3.output, hc2.output, hc1.output], by have := hc1.size; omega, fun j hj hn => by
      have hj' : j < B := by rw [← HB.out]; exact hj
      rw [hc3.block j (by omega) (by show ¬ j = B; omega), hc2.block j (by omega) (by show ¬ (j = R ∨ j = B ∨ j = B + 1); omega), hc1.block j hj (fun h => h)]⟩
  | false =>
    rw [hmm] at hm
    have hne : (t3 == [239, 187, 191]) = false := by simpa [mark] using hm.symm
    clear hm hl3
    go_wp2_with fail
    all_goals
      go_ret2
      refine ⟨by rw [HB.out, hmm]; rfl, ?_⟩
      unfold Skipped
      rw [HB.out, hmm]
      refine ⟨buf', hR2, hB2, hU2, hbl, hbt, ?_⟩
      exact ⟨by rw [hc2.os, hc1.os], by rw [hc2.tape, hc1.tape], by rw [hc2.output, hc1.output], by have := hc1.size; omega, fun j hj hn => by
        have hj' : j < B := by rw [← HB.out]; exact hj
        rw [hc2.block j (by omega) (by show ¬ (j = R ∨ j = B ∨ j = B + 1); omega), hc1.block j hj (fun h => h)]⟩

end Go.Proofs.Qxb6615548aDoor
