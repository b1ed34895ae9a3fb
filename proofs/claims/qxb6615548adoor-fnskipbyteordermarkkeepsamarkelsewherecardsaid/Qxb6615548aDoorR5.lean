import Derived.Test.Qxb6615548aDoorR1
import Derived.Test.Qxb6615548aDoorR2
import Derived.Test.Qxb6615548aDoorR3
import Derived.Test.Qxb6615548aDoorR4
namespace Go.Proofs.Qxb6615548aDoor
open Go.RowKit
set_option linter.unusedVariables false

theorem read_some (R B U : Nat) (s : ByteArray) (rem : List UInt8) (g off n cap : Nat) (cur : List Value) (w : World) (hs : s.size ≤ 2097152) (hS : Src w R B U s rem) (hrem : rem ≠ [])
    (hg : w.heap[g]? = some (.cells cur.toArray 5 (0, 0))) (hfit : off + n ≤ cur.length) (hgU : g ≠ U) (hn : 0 < n) (hn2 : n ≤ 9223372036854775807) :
    Calls Tryd.prog 37 #[.pointer (some ⟨B, 0, none⟩), .slice (some ⟨g, off, none⟩) n cap] w fun e w' => ∃ k : Nat, e = .returned (.tuple #[.int .i64 k, .nilIface]) ∧ Got w R B U s rem g off n cur k w' := by
  obtain ⟨i, r, wp, p, lb, lr, buf, pend, hR, hB, hU, hbl, hw, hi, hr, hpd, hre⟩ := hS
  have hBR : B ≠ R := ne_of_types hB hR (by decide)
  have hBU : B ≠ U := ne_of_types hB hU (by decide)
  have hUR : U ≠ R := ne_of_types hU hR (by decide)
  have hBg : B ≠ g := ne_of_types hB hg (by decide)
  have hgR : g ≠ R := ne_of_types hg hR (by decide)
  have hsz : s.data.toList.length = s.size := Array.length_toList
  by_cases hp : 0 < pend.length
  · refine (read_held R B U s r wp lb lr buf pend g off n cap cur _ rfl w hn hp hB hU hbl hw hr hpd hg hfit hgU hn2).mono ?_
    rintro e w' ⟨rfl, hg', ⟨lb', hB'⟩, hc, hz⟩
    generalize hk : min n pend.length = k at *
    have htk : rem.take k = pend.take k := by rw [hre, List.take_append_of_le_length (by omega)]
    refine ⟨k, rfl, by omega, by omega, by rw [hre, List.length_append]; omega, by rw [htk]; exact hg', ?_, hc.mono (fun _ _ h => h.elim (fun h => Or.inr (Or.inl h)) (fun h => Or.inr (Or.inr (Or.inr h)))), hz⟩
    refine ⟨i, r + k, wp, p, lb', -1, buf, pend.drop k, hc.heap hR (by show ¬ (R = B ∨ R = g); simp [Ne.symm hBR, Ne.symm hgR]), hB', hc.heap hU (by show ¬ (U = B ∨ U = g); simp [Ne.symm hBU, Ne.symm hgU]), hbl, hw, hi, by rw [List.length_drop]; omega, ?_, ?_⟩
    · rw [← drop_bytesV, ← hpd, List.length_drop, List.drop_take, List.drop_drop]
    · rw [hre, List.drop_append_of_le_length (by omega)]
  · have hp0 : pend = [] := List.eq_nil_of_length_eq_zero (by omega)
    subst hp0
    simp only [List.length_nil, Nat.add_zero, List.nil_append] at hr hre
    subst hr
    have hi' : i < s.size := by
      rcases Nat.lt_or_ge i s.size with h | h
      · exact h
      · exact absurd (hre.trans (List.drop_eq_nil_of_le (by omega))) hrem
    have hrl : rem.length = s.size - i := by rw [hre, List.length_drop, hsz]
    by_cases hn1 : 4096 ≤ n
    · refine (read_direct R B U s i p r lb lr g off n cap cur _ rfl w hn1 hs hi' hw hR hB hg hfit hn2).mono ?_
      rintro e w' ⟨rfl, hR', hg', ⟨lb', hB'⟩, hc, hz⟩
      generalize hk : min n (s.size - i) = k at *
      have htk : rem.take k = (s.data.toList.drop i).take n := by
        rw [hre, List.take_eq_take_iff, List.length_drop, hsz]; omega
      refine ⟨k, rfl, by omega, by omega, by omega, by rw [htk]; exact hg', ?_, hc.mono (fun _ _ h => h.elim Or.inl (fun h => h.elim (fun h => Or.inr (Or.inl h)) (fun h => Or.inr (Or.inr (Or.inr h))))), hz⟩
      refine ⟨i + k, r, r, -1, lb', -1, buf, [], hR', hB', hc.heap hU (by show ¬ (U = R ∨ U = B ∨ U = g); simp [hUR, Ne.symm hBU, Ne.symm hgU]), hbl, hw, by omega, rfl, by simp [bytesV], ?_⟩
      rw [hre, List.drop_drop, List.nil_append]
    · refine (read_fill R B U s i p r lb lr buf g off n cap cur _ rfl _ rfl w hn (by omega) hs hi' hR hB hU hbl hg hfit hgU).mono ?_
      rintro e w' ⟨rfl, hR', hg', ⟨lb', hB'⟩, hU', hc, hz⟩
      generalize hwp : min 4096 (s.size - i) = wp at *
      generalize hk : min n wp = k at *
      have hTl : ((s.data.toList.drop i).take 4096).length = wp := by rw [List.length_take, List.length_drop, hsz]; omega
      refine ⟨k, rfl, by omega, by omega, by omega, by rw [hre]; exact hg', ?_, hc, hz⟩
      refine ⟨i + wp, k, wp, -1, lb', -1, _, ((s.data.toList.drop i).take 4096).drop k, hR', hB', hU', ?_, by omega, by omega, ?_, ?_, ?_⟩
      · rw [length_splice, hbl]; rw [length_bytesV, hTl]; omega
      · rw [List.length_drop, hTl]; omega
      · rw [← drop_bytesV]
        have h1 : (splice buf 0 (bytesV ((s.data.toList.drop i).take 4096))).take wp = bytesV ((s.data.toList.drop i).take 4096) := by
          rw [take_splice _ _ _ (by rw [length_bytesV, hTl]; omega), List.take_of_length_le (by rw [length_bytesV, hTl]; omega)]
        generalize splice buf 0 (bytesV ((s.data.toList.drop i).take 4096)) = bf at *
        rw [← h1, List.length_drop, hTl, List.drop_take]
      · rw [hre]
        have h2 : s.data.toList.drop (i + wp) = (s.data.toList.drop i).drop wp := by rw [List.drop_drop]
        rw [h2]
        have h3 : (s.data.toList.drop i).take 4096 = (s.data.toList.drop i).take wp := by rw [List.take_eq_take_iff, List.length_drop, hsz]; omega
        rw [h3, ← List.drop_append_of_le_length (by rw [List.length_take, List.length_drop, hsz]; omega), List.take_append_drop]

theorem read_none (R B U : Nat) (s : ByteArray) (g off n cap : Nat) (w : World) (hs : s.size ≤ 2097152) (hS : Src w R B U s [])
    (hn : 0 < n) (hn2 : n ≤ 9223372036854775807) (E : TypeId) (ev : Value) (hE : w.cell? ⟨0, 0, none⟩ = some (.iface E ev)) (hB0 : 0 < B) :
    Calls Tryd.prog 37 #[.pointer (some ⟨B, 0, none⟩), .slice (some ⟨g, off, none⟩) n cap] w fun e w' => e = .returned (.tuple #[.int .i64 0, .iface E ev]) ∧ Chg (fun k => k = B) w w' ∧ w'.heap.size = w.heap.size := by
  obtain ⟨i, r, wp, p, lb, lr, buf, pend, hR, hB, hU, hbl, hw, hi, hr, hpd, hre⟩ := hS
  have hBR : B ≠ R := ne_of_types hB hR (by decide)
  have hsz : s.data.toList.length = s.size := Array.length_toList
  obtain ⟨rfl, hd⟩ := List.append_eq_nil_iff.1 hre.symm
  have hi' : s.size ≤ i := by
    have := congrArg List.length hd
    rw [List.length_drop, hsz] at this; simp at this; omega
  simp only [List.length_nil, Nat.add_zero] at hr
  subst hr
  refine (read_eof R B U s i r lb lr g off n cap w hn hs hi' (by omega) ((rowFacts hR).1 0) ((rowFacts hR).1 1) E ev hE (Ne.symm hBR) hB0 hB hn2).mono ?_
  rintro e w' ⟨rfl, _, hc, hz⟩
  exact ⟨rfl, hc, hz⟩

end Go.Proofs.Qxb6615548aDoor
