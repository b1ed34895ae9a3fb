import Derived.Test.Qxb6615548aDoorBase3
import Derived.Deep.LoopGhost
namespace Go.Proofs.Qxb6615548aDoor
open Go.RowKit

theorem chg_of_grown {w w' : World} {row : Option Nat} (h : w.grownBy w' row) : Chg (fun k => some k = row) w w' :=
  ⟨h.os, h.tape, h.output, h.size, fun k hk hn => h.block k hk hn⟩

theorem owns_chg {S : Nat → Prop} {w w' : World} {base : Nat} {e : TypeId} {size : Nat} {v : Value} {n : Nat} {xs : List Value} (h : w.ownsRow base e size v n xs) (hc : Chg S w w')
    (hS : ∀ g cur, w.heap[g]? = some (.cells cur e (0, 0)) → ¬ S g) : w'.ownsRow base e size v n xs := by
  obtain ⟨h1, h2⟩ := h
  refine ⟨h1, ?_⟩
  rcases h2 with h2 | ⟨g, cap, cur, hv, hg, hh, r⟩
  · exact Or.inl h2
  · exact Or.inr ⟨g, cap, cur, hv, hg, hc.heap hh (hS g cur hh), r⟩

theorem zeroCells_zs (n : Nat) : Builtin.zeroCells (Value.int .u8 0).cells n = (zs n).toArray := by
  apply Array.ext
  · simp [Builtin.zeroCells, zs, Value.cells]
  · intro j h1 h2
    simp [Builtin.zeroCells, zs, Value.cells, Nat.mod_one]

theorem zs_append (m n : Nat) : (zs m).toArray ++ (zs n).toArray = (zs (m + n)).toArray := by
  simp [zs]

/-- append([]byte(nil), make([]byte, n)...): n zero bytes, as great a row as the tape says. -/
theorem run_append_make {P : Program} (w : World) (t u ty e : TypeId) (i : TypeInfo) (ht : P.underlying t = some (.slice e)) (hu : P.underlying u = some (.int .i64)) (hi : P.info? e = some i) (hz : i.zero = some (.int .u8 0))
    (hs : i.size = 1) (hb : i.bytes = 1) (n : Nat) (h0 : 0 < n) (hn : n ≤ 4294967296) :
    (Builtin.append_ #[t, u] ty #[.slice none 0 0, .int .i64 n]).run P w =
      .ok (.slice (some ⟨w.heap.size, 0, none⟩) n (grownCap w n 0 e)) (w.drew.alloc (.cells (zs (grownCap w n 0 e)).toArray e)) := by
  have hn0 : n ≠ 0 := by omega
  have h63' : ¬ (9223372036854775807 < (n : Int)) := by omega
  have h48' : ¬ (281474976710656 < Builtin.nextslicecap n 0 * i.bytes) := by rw [nextslicecap_zero h0, hb]; omega
  have hw : IntKind.i64.wrap (n : Int) = n := by rw [IntKind.wrap_i64]; omega
  have hneg : ¬ ((n : Int) < 0) := by omega
  have hbig : ¬ (281474976710656 < (n : Int) * (i.bytes : Int)) := by rw [hb]; omega
  have hcat : (zs n).toArray ++ (zs (grownCap w n 0 e - n)).toArray = (zs (grownCap w n 0 e)).toArray := by
    rw [zs_append, Nat.add_sub_cancel' (grownCap_ge w n 0 e)]
  rw [← hcat]
  simp [Builtin.append_, run_underlying ht, run_underlying hu, sizeOf, typeInfo, zeroValue, hi, hz, hs, asInt, asIntOf, hw, hneg, hbig, hn0, h63', h48', Question.forced, run_firstCells_none, newRow, grownCap, zeroCells_zs]

theorem wpList_append_make {P : Program} {w : World} {ops : Array Oper} {rest : List Oper} {o : Oper} {a : Act} {Q : Exit → Act → World → Prop} (hgd : o.guard = none) (s x : Operand) (t u : TypeId)
    (ho : o.op = .call { callee := .builtin .append, args := #[s, x], argTypes := #[t, u] }) (e : TypeId) (i : TypeInfo) (ht : P.underlying t = some (.slice e)) (hu : P.underlying u = some (.int .i64)) (hi : P.info? e = some i) (hz : i.zero = some (.int .u8 0))
    (hs : i.size = 1) (hb : i.bytes = 1) (hsv : a.eval s = .slice none 0 0) (n : Nat) (hx : a.eval x = .int .i64 n) (h0 : 0 < n) (hn : n ≤ 4294967296)
    (h : ∀ c w', n ≤ c → c ≤ 9223372036854775807 → w'.heap[w.heap.size]? = some (.cells (zs c).toArray e (0, 0)) → Chg (fun _ => False) w w' → wpList P ops Q rest (a.put o.dst (.slice (some ⟨w.heap.size, 0, none⟩) n c)) w') :
    wpList P ops Q (o :: rest) a w := by
  refine wpList_plain hgd fun K hK => ?_
  have hrun := run_append_make (P := P) w t u o.type e i ht hu hi hz hs hb n h0 hn
  have hm : grownCap w n 0 e ≤ 9223372036854775807 := by
    have := grownCap_le_maxLen w n 0 e (by simp only [maxLen]; omega)
    simpa [maxLen] using this
  have := h _ _ (grownCap_ge w n 0 e) hm (heap_alloc_new w.drew _) (((Chg.refl _ w).drew).alloc _)
  unfold Oper.wp
  simp [execOp, ho, resolve, invoke, builtin, hsv, hx, hrun, Result.andThen]
  exact hK _ _ this

/-- append(dst, src...) where there is room, both rows known whole. -/
theorem wpList_append_into {P : Program} {w : World} {ops : Array Oper} {rest : List Oper} {o : Oper} {a : Act} {Q : Exit → Act → World → Prop} (hgd : o.guard = none) (s x : Operand) (t : TypeId)
    (ho : o.op = .call { callee := .builtin .append, args := #[s, x], argTypes := #[t, t] }) (e : TypeId) (i : TypeInfo) (ht : P.underlying t = some (.slice e)) (hi : P.info? e = some i) (hs : i.size = 1)
    (g k cap : Nat) (hsv : a.eval s = .slice (some ⟨g, 0, none⟩) k cap) (u m c : Nat) (hx : a.eval x = .slice (some ⟨u, 0, none⟩) m c)
    (cur src : List Value) (hg : w.heap[g]? = some (.cells cur.toArray e (0, 0))) (tu : TypeId) (hu : w.heap[u]? = some (.cells src.toArray tu (0, 0))) (hm : m ≤ src.length) (hroom : k + m ≤ cap) (hfit : k + m ≤ cur.length)
    (h1 : ∀ v ∈ src.take m, v.oneCell' = true)
    (h : ∀ w', w'.heap[g]? = some (.cells (splice cur k (src.take m)).toArray e (0, 0)) → Chg (fun j => j = g) w w' → w'.heap.size = w.heap.size → wpList P ops Q rest (a.put o.dst (.slice (some ⟨g, 0, none⟩) (k + m) cap)) w') :
    wpList P ops Q (o :: rest) a w := by
  refine wpList_plain hgd fun K hK => ?_
  have hlen : (src.take m).length = m := by rw [List.length_take]; omega
  have hrun := run_append_room (P := P) w t o.type e i ht hi g k cap cur.toArray hg ⟨u, 0, none⟩ m c (src.take m) (by rw [hlen, hs, Nat.mul_one]) (fun j v hj => by
    have hplain : (⟨u, 0, none⟩ : Addr).add j = ⟨u, 0 + j, none⟩ := by unfold Addr.add; split <;> simp_all
    rw [hplain, (rowFacts hu).1, List.getElem?_toArray, Nat.zero_add]
    rw [List.getElem?_take] at hj
    split at hj
    · exact hj
    · simp at hj) h1 hroom (by rw [hs, hlen, Nat.mul_one]; simpa using hfit)
  have hsp : (cur.toArray.toList.take (k * i.size) ++ src.take m ++ cur.toArray.toList.drop (k * i.size + (src.take m).length)) = splice cur k (src.take m) := by
    simp [splice, hs]
  rw [hsp] at hrun
  have := h _ (setRow_heap w g _ _ e _ hg) ((Chg.refl _ w).setRow g _ rfl) (by simp)
  generalize splice cur k (src.take m) = cs at *
  unfold Oper.wp
  simp [execOp, ho, resolve, invoke, builtin, hsv, hx, hrun, Result.andThen]
  exact hK _ _ this

end Go.Proofs.Qxb6615548aDoor
