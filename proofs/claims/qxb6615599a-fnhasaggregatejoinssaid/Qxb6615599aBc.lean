import Derived.Test.Qxb6615599aPa
import Derived.Test.Qxb6615599aHa
import Derived.Test.Qxb6615599aSt
namespace Go.Proofs.Qxb6615599a
open Go.RowKit
set_option linter.unusedVariables false
set_option maxRecDepth 100000

theorem cuts48 {w : World} {b : Nat} {n : Int} (hb : w.heap[b]? = some (.cells #[.int .i64 n] 50 (0, 0))) : Cuts w (.iface 48 (.pointer (some ⟨b, 0, none⟩))) (pv 1 0 false n ⟨#[]⟩) .nilIface .nilIface [] :=
  fun w' h => (parts48 b n w' (Below.blk h hb)).mono (by rintro e w'' ⟨rfl, hb'⟩; exact ⟨_, rfl, .inl ⟨rfl, rfl⟩, hb'⟩)
theorem cuts88 {w : World} {b : Nat} {s : ByteArray} (hb : w.heap[b]? = some (.cells #[.string s] 90 (0, 0))) : Cuts w (.iface 88 (.pointer (some ⟨b, 0, none⟩))) (pv 4 0 false 0 s) .nilIface .nilIface [] :=
  fun w' h => (parts88 b s w' (Below.blk h hb)).mono (by rintro e w'' ⟨rfl, hb'⟩; exact ⟨_, rfl, .inl ⟨rfl, rfl⟩, hb'⟩)
theorem cuts67 {w : World} {b : Nat} {f : Int} {s : ByteArray} {x : Value} {d : Bool} (hb : w.heap[b]? = some (.cells #[.int .u8 f, .string s, x, .bool d] 70 (0, 0))) : Cuts w (.iface 67 (.pointer (some ⟨b, 0, none⟩))) (pv 11 0 d 0 s) .nilIface x [] :=
  fun w' h => (parts67 b f s x d w' (Below.blk h hb)).mono (by rintro e w'' ⟨rfl, hb'⟩; exact ⟨_, rfl, .inl ⟨rfl, rfl⟩, hb'⟩)
theorem cuts72 {w : World} {b g c : Nat} {s : ByteArray} {x y : Value} {u : Int} (hb : w.heap[b]? = some (.cells #[.string s, .slice (some ⟨g, 0, none⟩) 2 c, .int .u8 u] 75 (0, 0))) (hg : w.heap[g]? = some (.cells #[x, y] 29 (0, 0))) : Cuts w (.iface 72 (.pointer (some ⟨b, 0, none⟩))) (pv 10 u false 0 s) .nilIface .nilIface [x, y] :=
  fun w' h => (parts72 b s _ 2 c u w' (Below.blk h hb)).mono (by rintro e w'' ⟨rfl, hb'⟩; exact ⟨_, rfl, .inr ⟨g, c, rfl, Below.blk hb' (Below.blk h hg), by simp, by simp⟩, hb'⟩)
theorem cuts53 {w : World} {b : Nat} {op : Int} {x : Value} (hb : w.heap[b]? = some (.cells #[.int .u8 op, x] 55 (0, 0))) : Cuts w (.iface 53 (.pointer (some ⟨b, 0, none⟩))) (pv 14 op false 0 ⟨#[]⟩) x .nilIface [] :=
  fun w' h => (parts53 b op x w' (Below.blk h hb)).mono (by rintro e w'' ⟨rfl, hb'⟩; exact ⟨_, rfl, .inl ⟨rfl, rfl⟩, hb'⟩)
theorem cuts39 {w : World} {b : Nat} {op : Int} {x y : Value} (hb : w.heap[b]? = some (.cells #[.int .u8 op, x, y] 42 (0, 0))) : Cuts w (.iface 39 (.pointer (some ⟨b, 0, none⟩))) (pv 15 op false 0 ⟨#[]⟩) x y [] :=
  fun w' h => (parts39 b op x y w' (Below.blk h hb)).mono (by rintro e w'' ⟨rfl, hb'⟩; exact ⟨_, rfl, .inl ⟨rfl, rfl⟩, hb'⟩)

theorem has_nil (n : Nat) (w : World) : Has n w .nilIface false := by
  cases n
  · exact ⟨rfl, rfl⟩
  · exact .inl ⟨rfl, rfl⟩

theorem anyOf_nil (H : Value → Bool → Prop) : AnyOf H [] false := .inr ⟨rfl, fun j c h => by cases h⟩
theorem anyOf_one {H : Value → Bool → Prop} {x : Value} {a : Bool} (hx : H x a) : AnyOf H [x] a := by
  cases a
  · refine .inr ⟨rfl, fun j c h => ?_⟩
    match j, h with
    | 0, h => cases h; exact hx
  · exact .inl ⟨rfl, 0, x, rfl, hx, fun j hj => absurd hj (by omega)⟩
theorem anyOf_two {H : Value → Bool → Prop} {x y : Value} {a b : Bool} (hx : H x a) (hy : H y b) : AnyOf H [x, y] (a || b) := by
  cases a
  · cases b
    · refine .inr ⟨rfl, fun j c h => ?_⟩
      match j, h with
      | 0, h => cases h; exact hx
      | 1, h => cases h; exact hy
    · refine .inl ⟨rfl, 1, y, rfl, hy, fun j hj c' h => ?_⟩
      match j, hj, h with
      | 0, _, h => cases h; exact hx
  · exact .inl ⟨rfl, 0, x, rfl, hx, fun j hj => absurd hj (by omega)⟩

/-- An aggregate. -/
theorem has_agg {w : World} {T : TypeId} {a : Addr} {op m : Int} {fl : Bool} {s : ByteArray} {l r : Value} {cs : List Value} (h : Cuts w (.iface T (.pointer (some a))) (pv 11 op fl m s) l r cs) : Has 1 w (.iface T (.pointer (some a))) true :=
  .inr ⟨T, a, 11, op, fl, m, s, l, r, cs, rfl, h, .inl ⟨rfl, rfl⟩⟩

/-- Any other: the or of what it joins. -/
theorem has_node {n : Nat} {w : World} {T : TypeId} {a : Addr} {k op m : Int} {fl : Bool} {s : ByteArray} {l r : Value} {cs : List Value} {bl br bc : Bool} (hk : k ≠ 11) (h : Cuts w (.iface T (.pointer (some a))) (pv k op fl m s) l r cs)
    (hl : Has n w l bl) (hr : Has n w r br) (hc : AnyOf (Has n w) cs bc) : Has (n + 1) w (.iface T (.pointer (some a))) (br || bc || bl) := by
  refine .inr ⟨T, a, k, op, fl, m, s, l, r, cs, rfl, h, .inr ⟨hk, br, hr, ?_⟩⟩
  cases br
  · refine .inr ⟨rfl, bc, hc, ?_⟩
    cases bc
    · exact .inr ⟨rfl, hl⟩
    · exact .inl ⟨rfl, rfl⟩
  · exact .inl ⟨rfl, rfl⟩

theorem newest {w : World} {o : Obj} {n : Nat} (h : n = w.heap.size) : (w.alloc o).heap[n]? = some o := by subst h; exact Array.getElem?_push_size

theorem has_leaf {w : World} {T : TypeId} {a : Addr} {k op m : Int} {fl : Bool} {s : ByteArray} (hk : k ≠ 11) (h : Cuts w (.iface T (.pointer (some a))) (pv k op fl m s) .nilIface .nilIface []) : Has 1 w (.iface T (.pointer (some a))) false :=
  has_node hk h (has_nil 0 w) (has_nil 0 w) (anyOf_nil _)

def HasPost (n : Nat) (w : World) (b : Bool) (e : Ending) (w' : World) : Prop := ∃ T a, e = .returned (.iface T (.pointer (some a))) ∧ Has n w' (.iface T (.pointer (some a))) b ∧ Below w.heap.size w w'

set_option maxHeartbeats 1000000 in
theorem leafOf_any (la : Bool) (lv : Int) (w : World) : Calls Try.prog 19 #[.bool la, .int .i64 lv] w (HasPost 1 w la) := by
  cases la
  · go_enter Try.func19, Try.ntmps19
    go_wp2
    go_ret
    exact ⟨48, _, rfl, has_leaf (by decide) (cuts48 (newest rfl)), below_new _ _⟩
  · go_enter Try.func19, Try.ntmps19
    go_wp2
    go_ret
    exact ⟨67, _, rfl, has_agg (cuts67 (newest (by simp))), bnext (below_new _ _) (below_new _ _)⟩

set_option maxHeartbeats 1000000 in
theorem rightOf_any (op : Int) (un call agg str : Bool) (v : Int) (s : ByteArray) (w : World) : Calls Try.prog 20 #[.agg #[.int .u8 op, .bool un, .bool call, .bool agg, .bool str, .int .i64 v, .string s]] w (HasPost 1 w agg) := by
  cases agg
  · cases str
    · go_enter Try.func20, Try.ntmps20
      go_wp2
      go_ret
      exact ⟨48, _, rfl, has_leaf (by decide) (cuts48 (newest (by simp))), bnext (below_new _ _) (below_new _ _)⟩
    · go_enter Try.func20, Try.ntmps20
      go_wp2
      go_ret
      exact ⟨88, _, rfl, has_leaf (by decide) (cuts88 (newest (by simp))), bnext (below_new _ _) (below_new _ _)⟩
  · go_enter Try.func20, Try.ntmps20
    go_wp2
    go_ret
    exact ⟨67, _, rfl, has_agg (cuts67 (newest (by simp))), bnext (bnext (below_new _ _) (below_new _ _)) (below_new _ _)⟩

theorem keepAlloc {w : World} {o : Obj} {b : Nat} {cs : Array Value} (h : ∀ j, w.cell? ⟨b, j, none⟩ = cs[j]?) (hb : b < w.heap.size) : ∀ j, (w.alloc o).cell? ⟨b, j, none⟩ = cs[j]? :=
  fun j => (World.cell?_of_block (w := w) (Below.heap_alloc _ _ _ hb)).trans (h j)

theorem below_newN (w : World) (o : Obj) (n : Nat) : Below w.heap.size w ((w.alloc o).drewN n) := ⟨rfl, rfl, rfl, (below_new w o).size, (below_new w o).block⟩

def BRel (w : World) (la : Bool) (L : List St) (k : Nat) (v7 v8 : Value) (wr : World) : Prop :=
  ∃ (i : Nat) (T : TypeId) (a : Addr), v7 = .iface T (.pointer (some a)) ∧ v8 = .int .i64 i ∧ i + k = L.length ∧ Below w.heap.size w wr ∧ Has (i + 1) wr v7 (hasL la (L.take i))

theorem hasL_succ {la : Bool} {L : List St} {i : Nat} {st : St} (hi : L[i]? = some st) : hasL la (L.take (i + 1)) = (hasL la (L.take i) || (!st.un && st.agg)) := by
  rw [hasL, hasL, List.take_add_one, hi]; simp [Bool.or_assoc]

set_option maxHeartbeats 2000000 in
theorem buildChain_any (la : Bool) (lv : Int) (w : World) (sl : Value) (L : List St) (hs : StepsAt w sl L) :
    Calls Try.prog 10 #[.bool la, .int .i64 lv, sl] w (HasPost (L.length + 1) w (hasL la L)) := by
  obtain ⟨p, c, rfl, hmax, _⟩ := id hs
  go_enter Try.func10, Try.ntmps10
  go_wp2_with (go_at_call 19; refine (leafOf_any la lv _).mono ?_; rintro e w1 ⟨T, a, rfl, hh, hb⟩)
  go_loopg [7, 8, 9] L.length (fun k v7 v8 _ wr => BRel w la L k v7 v8 wr)
  case atStart => exact ⟨0, T, a, rfl, rfl, by omega, hb, by simpa [hasL] using hh⟩
  case round =>
    clear hh hb
    obtain ⟨i, T', a', rfl, rfl, hik, hb, hh⟩ := hrel
    cases gk with
    | zero =>
      have hi : i = L.length := by omega
      subst hi
      rw [List.take_length] at hh
      go_wp2
      go_ret
      exact ⟨T', a', rfl, hh, hb⟩
    | succ k' =>
      have hi : i < L.length := by omega
      obtain ⟨st, hst⟩ : ∃ x, L[i]? = some x := ⟨_, List.getElem?_eq_getElem hi⟩
      have hsr := hs.mono hb
      obtain ⟨g, o, rfl, h0, h1, h2, h3, h4, h5, h6⟩ := hsr.at hst
      have hnx := hasL_succ (la := la) hst
      obtain ⟨op, un, call, agg, str, v, s⟩ := st
      simp only at h0 h1 h2 h3 h4 h5 h6 hnx
      clear hsr
      cases un
      · cases call
        · go_wp2
          go_region_held3 (fun w' => ∀ j, w'.cell? ⟨wr.heap.size, j, none⟩ = (#[.int .u8 op, .bool false, .bool false, .bool agg, .bool str, .int .i64 v, .string s] : Array Value)[j]?) (first | exact hc2 | exact keepAlloc hc2 hl2 | exact keepAlloc (keepAlloc hc2 hl2) (by simp; omega) | go_keep) (first | (go_at_call 20; refine (rightOf_any op false false agg str v s _).mono ?_; rintro e w2 ⟨T2, a2, rfl, hh2, hb2⟩; have hB2 := Below.blk hb2 (newest (w := wr) rfl); have hl2 := lt_of_heap hB2; have hc2 := (rowFacts (cs := #[.int .u8 op, .bool false, .bool false, .bool agg, .bool str, .int .i64 v, .string s]) (t := 27) hB2).1))
          go_wp2
          go_roundg k'
          case measure => omega
          case rel =>
            have hbw := bnext (below_newN wr _ _) hb2
            have hbb := below_new w2 (.cells #[.int .u8 op, .iface T' (.pointer (some a')), .iface T2 (.pointer (some a2))] 42)
            refine ⟨i + 1, 39, _, rfl, by go_num, by omega, bnext hb (bnext hbw hbb), ?_⟩
            rw [hnx]
            have := has_node (by decide) (cuts39 (newest rfl)) (hh.mono (bnext hbw hbb)) ((Has.le (by omega) hh2).mono hbb) (anyOf_nil _)
            simpa [Bool.or_comm] using this
        · go_wp2
          go_region_held3 (fun w' => ∀ j, w'.cell? ⟨wr.heap.size, j, none⟩ = (#[.int .u8 op, .bool false, .bool true, .bool agg, .bool str, .int .i64 v, .string s] : Array Value)[j]?) (first | exact hc2 | exact keepAlloc hc2 hl2 | exact keepAlloc (keepAlloc hc2 hl2) (by simp; omega) | go_keep) (first | (go_at_call 20; refine (rightOf_any op false true agg str v s _).mono ?_; rintro e w2 ⟨T2, a2, rfl, hh2, hb2⟩; have hB2 := Below.blk hb2 (newest (w := wr) rfl); have hl2 := lt_of_heap hB2; have hc2 := (rowFacts (cs := #[.int .u8 op, .bool false, .bool true, .bool agg, .bool str, .int .i64 v, .string s]) (t := 27) hB2).1))
          go_wp2
          go_roundg k'
          case measure => omega
          case rel =>
            have hbw := bnext (below_newN wr _ _) hb2
            have hbb := bnext (below_new w2 (.cells #[.iface T' (.pointer (some a')), .iface T2 (.pointer (some a2))] 29)) (below_new _ (.cells #[.string s, .slice (some ⟨w2.heap.size, 0, none⟩) 2 2, .int .u8 0] 75))
            refine ⟨i + 1, 72, _, rfl, by go_num, by omega, bnext hb (bnext hbw hbb), ?_⟩
            rw [hnx]
            have := has_node (by decide) (cuts72 (newest (n := w2.heap.size + 1) (by simp)) (Below.blk (below_new _ _) (newest rfl))) (has_nil _ _) (has_nil _ _) (anyOf_two (hh.mono (bnext hbw hbb)) ((Has.le (by omega) hh2).mono hbb))
            simpa using this
      · go_wp2
        go_roundg k'
        case measure => omega
        case rel =>
          have hbb := bnext (below_new wr (.cells #[.int .u8 op, .bool true, .bool call, .bool agg, .bool str, .int .i64 v, .string s] 27)) (below_new _ (.cells #[.int .u8 op, .iface T' (.pointer (some a'))] 55))
          exact ⟨i + 1, 53, _, rfl, by go_num, by omega, bnext hb hbb, by rw [hnx]; simpa using has_node (by decide) (cuts53 (newest (by simp))) (hh.mono hbb) (has_nil _ _) (anyOf_nil _)⟩

end Go.Proofs.Qxb6615599a
