/-
  Laws without the dump: 'Chg': which blocks a call has turned; copy out of a string, copy between two slices, as steps of a walk and of a region that draws its order.
-/
import Derived.WalkKit
import Derived.WalkSpells
import Derived.WalkLawsBesides
import Derived.Laws.CopyOwn
import Derived.Deep.QuietTactic
import Derived.BigQuiet
import Derived.Deep.RegionHeld3
import Derived.Deep.DrawnRows
import Derived.Deep.DeepCutAuto
namespace Go.Proofs.Qxb6615548aDoor
open Go.RowKit

/-- The blocks that were there and are not in S are as they were. -/
structure Chg (S : Nat → Prop) (w w' : World) : Prop where
  os : w'.os = w.os
  tape : w'.tape = w.tape
  output : w'.output = w.output
  size : w.heap.size ≤ w'.heap.size
  block : ∀ k, k < w.heap.size → ¬ S k → w'.heap[k]? = w.heap[k]?

theorem Chg.refl (S : Nat → Prop) (w : World) : Chg S w w := ⟨rfl, rfl, rfl, Nat.le_refl _, fun _ _ _ => rfl⟩
theorem Chg.trans {S : Nat → Prop} {a b c : World} (h : Chg S a b) (k : Chg S b c) : Chg S a c :=
  ⟨k.os.trans h.os, k.tape.trans h.tape, k.output.trans h.output, Nat.le_trans h.size k.size, fun i hi hn => (k.block i (Nat.lt_of_lt_of_le hi h.size) hn).trans (h.block i hi hn)⟩
theorem Chg.mono {S T : Nat → Prop} {w w' : World} (h : Chg S w w') (hs : ∀ k, k < w.heap.size → S k → T k) : Chg T w w' :=
  ⟨h.os, h.tape, h.output, h.size, fun k hk hn => h.block k hk fun hS => hn (hs k hk hS)⟩
theorem Chg.drewN {S : Nat → Prop} {a w : World} (h : Chg S a w) (n : Nat) : Chg S a (w.drewN n) := ⟨h.os, h.tape, h.output, h.size, h.block⟩
theorem Chg.drew {S : Nat → Prop} {a w : World} (h : Chg S a w) : Chg S a w.drew := ⟨h.os, h.tape, h.output, h.size, h.block⟩
theorem Chg.alloc {S : Nat → Prop} {a w : World} (h : Chg S a w) (o : Obj) : Chg S a (w.alloc o) :=
  h.trans ⟨rfl, rfl, rfl, by simp, fun k hk _ => Below.heap_alloc _ _ _ hk⟩
theorem Chg.setCell {S : Nat → Prop} {a w : World} (h : Chg S a w) (p : Addr) (u : Value) (hp : S p.block) : Chg S a (w.setCell p u) :=
  h.trans ⟨rfl, rfl, rfl, by simp [World.setCell], fun k _ hn => Below.heap_setCell _ _ _ _ (fun e => hn (by rw [e]; exact hp))⟩
theorem Chg.setRow {S : Nat → Prop} {a w : World} (h : Chg S a w) (g : Nat) (cs : Array Value) (hp : S g) : Chg S a (w.setRow g cs) :=
  h.trans ⟨rfl, rfl, rfl, by simp [World.setRow], fun k _ hn => setRow_other w g k cs (fun e => hn (by rw [e]; exact hp))⟩
theorem Chg.below {S : Nat → Prop} {w w' : World} (h : Chg S w w') (B : Nat) (hB : B ≤ w.heap.size) (hS : ∀ k, S k → B ≤ k) : Below B w w' :=
  ⟨h.os, h.tape, h.output, h.size, fun k hk => h.block k (by omega) fun hk' => by have := hS k hk'; omega⟩
theorem Chg.heap {S : Nat → Prop} {w w' : World} (h : Chg S w w') {k : Nat} {o : Obj} (hk : w.heap[k]? = some o) (hn : ¬ S k) : w'.heap[k]? = some o :=
  (h.block k (Array.getElem?_eq_some_iff.1 hk).1 hn).trans hk

theorem Chg.cell {S : Nat → Prop} {w w' : World} (h : Chg S w w') {p : Addr} {v : Value} (hp : w.cell? p = some v) (hn : ¬ S p.block) : w'.cell? p = some v :=
  (World.cell?_of_block (w := w) (h.block p.block (block_lt_of_cell hp) hn)).trans hp

theorem lt_of_heap {w : World} {k : Nat} {o : Obj} (hk : w.heap[k]? = some o) : k < w.heap.size := (Array.getElem?_eq_some_iff.1 hk).1

theorem rowFacts {w : World} {g : Nat} {cs : Array Value} {t : TypeId} (h : w.heap[g]? = some (.cells cs t (0, 0))) : (∀ j, w.cell? ⟨g, j, none⟩ = cs[j]?) ∧ (∀ j, w.frozen? ⟨g, j, none⟩ = false) :=
  ⟨fun j => cell_of_row w g j _ _ _ h, fun j => frozen_of_row w g j _ _ h⟩

theorem ne_of_types {w : World} {a b : Nat} {x y : Array Value} {t u : TypeId} {f f' : Nat × Nat} (h : w.heap[a]? = some (.cells x t f)) (k : w.heap[b]? = some (.cells y u f')) (hn : t ≠ u) : a ≠ b := by
  intro e; subst e; rw [h] at k; simp at k; exact hn k.2.1

/-- The cells of a text's bytes. -/
def bytesV (l : List UInt8) : List Value := l.map fun b => Value.int .u8 b.toNat
theorem length_bytesV (l : List UInt8) : (bytesV l).length = l.length := by simp [bytesV]
theorem oneCell_bytesV (l : List UInt8) : ∀ v ∈ bytesV l, v.oneCell' = true := by
  intro v hv; simp only [bytesV, List.mem_map] at hv; obtain ⟨a, _, rfl⟩ := hv; rfl

theorem take_extract (s : ByteArray) (i n : Nat) : (s.extract i s.size).data.toList.take n = (s.data.toList.drop i).take n := by
  rw [ByteArray.data_extract, Array.toList_extract, List.extract_eq_take_drop, List.take_take, List.take_eq_take_iff]
  have : s.data.toList.length = s.size := Array.length_toList
  rw [List.length_drop]; omega

theorem run_copy_string {P : Program} (w : World) (dT sT ty elem : TypeId) (g o dLen dCap : Nat) (s : ByteArray) (cur : List Value) (t : TypeId)
    (hu : P.underlying dT = some (.slice elem)) (hs : (P.info? elem).map (·.size) = some 1)
    (hg : w.heap[g]? = some (.cells cur.toArray t (0, 0))) (hfit : o + Nat.min s.size dLen ≤ cur.length) :
    (Builtin.copy_ #[dT, sT] ty #[.slice (some ⟨g, o, none⟩) dLen dCap, .string s]).run P w =
      .ok (goInt (Nat.min s.size dLen)) (w.setRow g (splice cur o (bytesV (s.data.toList.take dLen))).toArray) := by
  have hlen : (bytesV (s.data.toList.take dLen)).length = Nat.min s.size dLen := by
    rw [length_bytesV]; simp; exact Nat.min_comm _ _
  have hst := run_storeCells_at P g o t (bytesV (s.data.toList.take dLen)) 0 cur.toArray w hg (by rw [hlen]; simpa using hfit) (oneCell_bytesV _)
  have he : ((s.extract 0 (Nat.min s.size dLen)).data.map fun b => Value.int .u8 b.toNat) = (bytesV (s.data.toList.take dLen)).toArray := by
    apply Array.ext'
    rw [Array.toList_map, ByteArray.data_extract, Array.toList_extract]
    unfold bytesV
    simp only [List.extract_eq_take_drop, List.drop_zero, Nat.sub_zero]
    congr 1
    rw [List.take_eq_take_iff]
    show min (min s.size dLen) s.data.toList.length = min dLen s.data.toList.length
    have : s.data.toList.length = s.size := Array.length_toList
    omega
  have hfc : ∀ k, Builtin.firstCells k (Nat.min s.size dLen) (.string s) = pure (bytesV (s.data.toList.take dLen)).toArray := fun _ => by
    simp only [Builtin.firstCells]; rw [he]
  have hsp : (List.take (o + 0) cur.toArray.toList ++ bytesV (List.take dLen s.data.toList) ++ List.drop (o + 0 + (bytesV (List.take dLen s.data.toList)).length) cur.toArray.toList) = splice cur o (bytesV (s.data.toList.take dLen)) := by
    simp [splice]
  rw [hsp] at hst
  generalize bytesV (s.data.toList.take dLen) = cs at *
  generalize hm : Nat.min s.size dLen = m at *
  cases hq : P.info? elem with
  | none => simp [hq] at hs
  | some i =>
    have hi : i.size = 1 := by simpa [hq] using hs
    simp [Builtin.copy_, run_underlying hu, Builtin.lenOf, sizeOf, typeInfo, hq, hm, hfc, hst]

/-- copy(dst, string), one step of a region that draws its order. -/
theorem step_copy_string {P : Program} {ops : Array Oper} {o : Oper} {a : Act} {w : World} {K : Act → World → Prop} {Q : Exit → Act → World → Prop} {E : Prop} (hgd : o.guard = none) (d s : Operand) (dT sT : TypeId)
    (ho : o.op = .call { callee := .builtin .copy, args := #[d, s], argTypes := #[dT, sT] }) (elem : TypeId) (hu : P.underlying dT = some (.slice elem)) (hsz : (P.info? elem).map (·.size) = some 1)
    (g off dLen dCap : Nat) (hd : a.eval d = .slice (some ⟨g, off, none⟩) dLen dCap) (str : ByteArray) (hs : a.eval s = .string str)
    (cur : List Value) (t : TypeId) (hg : w.heap[g]? = some (.cells cur.toArray t (0, 0))) (m : Nat) (hm : m = Nat.min str.size dLen) (hfit : off + m ≤ cur.length)
    (h : ∀ w', w'.heap[g]? = some (.cells (splice cur off (bytesV (str.data.toList.take dLen))).toArray t (0, 0)) → Chg (fun k => k = g) w w' → w'.heap.size = w.heap.size → K (a.put o.dst (.int .i64 m)) w') :
    if Region.wanted o (yielded ops a.tmps) = true then Oper.wp P o a w K Q else E := by
  subst hm
  have hw : Region.wanted o (yielded ops a.tmps) = true := by simp [Region.wanted, hgd]
  rw [if_pos hw]
  have hrun := run_copy_string (P := P) w dT sT o.type elem g off dLen dCap str cur t hu hsz hg hfit
  have := h _ (setRow_heap w g _ _ t _ hg) ((Chg.refl _ w).setRow g _ rfl) (by simp)
  generalize bytesV (str.data.toList.take dLen) = cs at *
  generalize Nat.min str.size dLen = m at *
  unfold Oper.wp
  simp [execOp, ho, resolve, invoke, builtin, hd, hs, hrun, Result.andThen]
  exact this

theorem getElem?_bytesV (l : List UInt8) (i : Nat) : (bytesV l)[i]? = l[i]?.map fun b => Value.int .u8 b.toNat := by simp [bytesV]

theorem run_string_of_row {P : Program} (w : World) (src dst e t : TypeId) (hs : P.underlying src = some (.slice e)) (he : P.underlying e = some (.int .u8)) (hd : P.underlying dst = some .string) (g len cap : Nat) (cur : List Value)
    (hg : w.heap[g]? = some (.cells cur.toArray t (0, 0))) (bs : List UInt8) (hl : bs.length = len) (h : cur.take len = bytesV bs) :
    (convert src dst (.slice (some ⟨g, 0, none⟩) len cap)).run P w = .ok (.string ⟨bs.toArray⟩) w := by
  have key := run_convert_bytes_arg (P := P) w src e hs he g 0 len cap (bs.map fun b => (b.toNat : Int)) (by simpa using hl) (fun i hi => by
    rw [(rowFacts hg).1]
    have h1 : cur[0 + i]? = (bytesV bs)[i]? := by rw [← h, List.getElem?_take, if_pos hi, Nat.zero_add]
    rw [List.getElem?_toArray, h1, getElem?_bytesV]
    have : i < bs.length := by omega
    simp [this]) dst hd
  rw [key]
  congr 2
  simp only [strOfNums, List.map_map]
  congr 2
  have : ((fun n : Int => UInt8.ofNat n.toNat) ∘ fun b : UInt8 => (b.toNat : Int)) = id := by funext b; simp
  rw [this, List.map_id]

theorem take_splice (L : List Value) (cs : List Value) (k : Nat) (hk : k ≤ cs.length) : (splice L 0 cs).take k = cs.take k := by
  simp only [splice, List.take_zero, List.nil_append]
  rw [List.take_append_of_le_length hk]

theorem take_bytesV (l : List UInt8) (k : Nat) : (bytesV l).take k = bytesV (l.take k) := by simp [bytesV]
theorem drop_bytesV (l : List UInt8) (k : Nat) : (bytesV l).drop k = bytesV (l.drop k) := by simp [bytesV]

/-- n zero bytes: a definition of its own, so that the walk leaves it standing. -/
def zs (n : Nat) : List Value := List.replicate n (.int .u8 0)
theorem length_zs (n : Nat) : (zs n).length = n := by simp [zs]
theorem made_zs (n : Nat) : madeCells (Value.int .u8 0).cells n = (zs n).toArray := by
  apply Array.ext
  · simp [madeCells, zs]
  · intro j h1 h2
    simp [madeCells, zs, Value.cells, Nat.mod_one]

theorem run_make_bytes {P : Program} (t e : TypeId) (i : TypeInfo) (ht : P.underlying t = some (.slice e)) (hi : P.info? e = some i) (hz : i.zero = some (.int .u8 0)) (hs : i.size = 1) (hb : i.bytes = 1)
    (l c : Nat) (hlc : l ≤ c) (hc : c ≤ 281474976710656) (w : World) :
    (Instr.makeSlice t (.int .i64 l) (.int .i64 c)).run P w = .ok (.slice (some ⟨w.heap.size, 0, none⟩) l c) (w.alloc (.cells (zs c).toArray e)) := by
  have h := run_make (P := P) w t e i _ ht hi hz .i64 .i64 l c (by omega) (by omega) (by rw [hb]; omega) (by omega)
  rw [h, hs]; simp only [Int.toNat_natCast, Nat.mul_one, made_zs]

end Go.Proofs.Qxb6615548aDoor
