import Derived.Test.Qxb6615599aPb
import Derived.Test.Qxb6615599aPc
import Derived.Test.Qxb6615599aBc
namespace Go.Proofs.Qxb6615599a
open Go.RowKit
set_option linter.unusedVariables false
set_option maxRecDepth 100000

theorem cuts56 {w : World} {b : Nat} {x : Value} {nt : Bool} (hb : w.heap[b]? = some (.cells #[x, .bool nt] 58 (0, 0))) : Cuts w (.iface 56 (.pointer (some ⟨b, 0, none⟩))) (pv 18 0 nt 0 ⟨#[]⟩) x .nilIface [] :=
  fun w' h => (parts56 b x nt w' (Below.blk h hb)).mono (by rintro e w'' ⟨rfl, hb'⟩; exact ⟨_, rfl, .inl ⟨rfl, rfl⟩, hb'⟩)
theorem cuts63 {w : World} {b : Nat} {x : Value} {u : Int} (hb : w.heap[b]? = some (.cells #[x, .int .u8 u] 66 (0, 0))) : Cuts w (.iface 63 (.pointer (some ⟨b, 0, none⟩))) (pv 13 u false 0 ⟨#[]⟩) .nilIface x [] :=
  fun w' h => (parts63 b x u w' (Below.blk h hb)).mono (by rintro e w'' ⟨rfl, hb'⟩; exact ⟨_, rfl, .inl ⟨rfl, rfl⟩, hb'⟩)
theorem cuts43 {w : World} {b g c : Nat} {x y : Value} {nt : Bool} (hb : w.heap[b]? = some (.cells #[x, .slice (some ⟨g, 0, none⟩) 1 c, .bool nt] 46 (0, 0))) (hg : w.heap[g]? = some (.cells #[y] 29 (0, 0))) : Cuts w (.iface 43 (.pointer (some ⟨b, 0, none⟩))) (pv 16 0 nt 0 ⟨#[]⟩) x .nilIface [y] :=
  fun w' h => (parts43 b x _ 1 c nt w' (Below.blk h hb)).mono (by rintro e w'' ⟨rfl, hb'⟩; exact ⟨_, rfl, .inr ⟨g, c, rfl, Below.blk hb' (Below.blk h hg), by simp, by simp⟩, hb'⟩)
theorem cuts47n {w : World} {b : Nat} {x y : Value} {nt : Bool} (hb : w.heap[b]? = some (.cells #[x, y, .nilIface, .bool nt] 52 (0, 0))) : Cuts w (.iface 47 (.pointer (some ⟨b, 0, none⟩))) (pv 17 0 nt 0 ⟨#[]⟩) x y [] :=
  fun w' h => (parts47n b x y nt w' (Below.blk h hb)).mono (by rintro e w'' ⟨rfl, hb'⟩; exact ⟨_, rfl, .inl ⟨rfl, rfl⟩, hb'⟩)
theorem cuts47 {w : World} {b : Nat} {x y z : Value} {T : TypeId} {nt : Bool} (hb : w.heap[b]? = some (.cells #[x, y, .iface T z, .bool nt] 52 (0, 0))) : Cuts w (.iface 47 (.pointer (some ⟨b, 0, none⟩))) (pv 17 0 nt 0 ⟨#[]⟩) x y [.iface T z] :=
  fun w' h => (parts47 b x y T z nt w' (Below.blk h hb)).mono (by rintro e w'' ⟨rfl, hg, hb'⟩; exact ⟨_, rfl, .inr ⟨_, 1, rfl, hg, by simp, by simp⟩, hb'⟩)
theorem cuts59 {w : World} {b : Nat} {z : Value} {T : TypeId} {ty pr : Int} (hb : w.heap[b]? = some (.cells #[.iface T z, .int .u8 ty, .int .i64 pr] 62 (0, 0))) : Cuts w (.iface 59 (.pointer (some ⟨b, 0, none⟩))) (pv 12 ty false pr ⟨#[]⟩) .nilIface .nilIface [.iface T z] :=
  fun w' h => (parts59 b T z ty pr w' (Below.blk h hb)).mono (by rintro e w'' ⟨rfl, hg, hb'⟩; exact ⟨_, rfl, .inr ⟨_, 1, rfl, hg, by simp, by simp⟩, hb'⟩)

/-- x and y stand in w as expressions that hold bx, bY; w has grown out of w0. -/
structure Two (n : Nat) (w0 : World) (x y : Value) (bx bY : Bool) (w : World) : Prop where
  hx : Has n w x bx
  hy : Has n w y bY
  hb : Below w0.heap.size w0 w

theorem Two.next {n : Nat} {w0 w w' : World} {x y : Value} {bx bY : Bool} (h : Two n w0 x y bx bY w) (hb : Below w.heap.size w w') : Two n w0 x y bx bY w' := ⟨h.hx.mono hb, h.hy.mono hb, bnext h.hb hb⟩

/-- HasAggregate of v gives b, and x and y stand as they stood. -/
def JPost (n : Nat) (w0 : World) (x y : Value) (bx bY : Bool) (b : Bool) (e : Ending) (w' : World) : Prop := e = .returned (.bool b) ∧ Two n w0 x y bx bY w'

theorem call_has {n m : Nat} {w0 w w' : World} {x y v : Value} {bx bY b : Bool} (h : Two n w0 x y bx bY w) (hb : Below w.heap.size w w') (hv : Has m w' v b) : Calls Try.prog 15 #[v] w' (JPost n w0 x y bx bY b) :=
  (hasAggregate m w' v b hv).mono fun e w'' ⟨he, hb'⟩ => ⟨he, h.next (bnext hb hb')⟩

section
variable {n : Nat} {w0 w : World} {x y : Value} {bx bY : Bool}

theorem call_x (h : Two n w0 x y bx bY w) : Calls Try.prog 15 #[x] w (JPost n w0 x y bx bY bx) := call_has h (Below.refl _ _) h.hx
theorem call_y (h : Two n w0 x y bx bY w) : Calls Try.prog 15 #[y] w (JPost n w0 x y bx bY bY) := call_has h (Below.refl _ _) h.hy

theorem call_bin (op : Int) (h : Two n w0 x y bx bY w) : Calls Try.prog 15 #[.iface 39 (.pointer (some ⟨w.heap.size, 0, none⟩))] (w.alloc (.cells #[.int .u8 op, x, y] 42)) (JPost n w0 x y bx bY (bY || bx)) :=
  have hb := below_new w (.cells #[.int .u8 op, x, y] 42)
  call_has h hb (by simpa using has_node (by decide) (cuts39 (newest rfl)) (h.hx.mono hb) (h.hy.mono hb) (anyOf_nil _))

theorem call_in (h : Two n w0 x y bx bY w) : Calls Try.prog 15 #[.iface 43 (.pointer (some ⟨w.heap.size + 1, 0, none⟩))] ((w.alloc (.cells #[y] 29)).alloc (.cells #[x, .slice (some ⟨w.heap.size, 0, none⟩) 1 1, .bool false] 46)) (JPost n w0 x y bx bY (bY || bx)) :=
  have hb := bnext (below_new w (.cells #[y] 29)) (below_new _ (.cells #[x, .slice (some ⟨w.heap.size, 0, none⟩) 1 1, .bool false] 46))
  call_has h hb (by simpa using has_node (by decide) (cuts43 (newest (n := w.heap.size + 1) (by simp)) (Below.blk (below_new _ _) (newest rfl))) (h.hx.mono hb) (has_nil _ _) (anyOf_one (h.hy.mono hb)))

theorem call_like {T : TypeId} {z : Value} (v : Int) (h : Two n w0 x (.iface T z) bx bY w) : Calls Try.prog 15 #[.iface 47 (.pointer (some ⟨w.heap.size + 1, 0, none⟩))] ((w.alloc (.cells #[.int .i64 v] 50)).alloc (.cells #[x, .iface 48 (.pointer (some ⟨w.heap.size, 0, none⟩)), .iface T z, .bool false] 52)) (JPost n w0 x (.iface T z) bx bY (bY || bx)) :=
  have hb := bnext (below_new w (.cells #[.int .i64 v] 50)) (below_new _ (.cells #[x, .iface 48 (.pointer (some ⟨w.heap.size, 0, none⟩)), .iface T z, .bool false] 52))
  call_has h hb (by simpa using has_node (n := n + 1) (by decide) (cuts47 (newest (n := w.heap.size + 1) (by simp))) ((h.hx.mono hb).up) (Has.le (by omega) (has_leaf (by decide) (cuts48 (Below.blk (below_new _ _) (newest rfl))))) (anyOf_one ((h.hy.mono hb).up)))

theorem call_likeN (v : Int) (h : Two n w0 x y bx bY w) : Calls Try.prog 15 #[.iface 47 (.pointer (some ⟨w.heap.size + 1, 0, none⟩))] ((w.alloc (.cells #[.int .i64 v] 50)).alloc (.cells #[.iface 48 (.pointer (some ⟨w.heap.size, 0, none⟩)), y, .nilIface, .bool false] 52)) (JPost n w0 x y bx bY bY) :=
  have hb := bnext (below_new w (.cells #[.int .i64 v] 50)) (below_new _ (.cells #[.iface 48 (.pointer (some ⟨w.heap.size, 0, none⟩)), y, .nilIface, .bool false] 52))
  call_has h hb (by simpa using has_node (n := n + 1) (by decide) (cuts47n (newest (n := w.heap.size + 1) (by simp))) (Has.le (by omega) (has_leaf (by decide) (cuts48 (Below.blk (below_new _ _) (newest rfl))))) ((h.hy.mono hb).up) (anyOf_nil _))

theorem call_un (op : Int) (h : Two n w0 x y bx bY w) : Calls Try.prog 15 #[.iface 53 (.pointer (some ⟨w.heap.size, 0, none⟩))] (w.alloc (.cells #[.int .u8 op, x] 55)) (JPost n w0 x y bx bY bx) :=
  have hb := below_new w (.cells #[.int .u8 op, x] 55)
  call_has h hb (by simpa using has_node (by decide) (cuts53 (newest rfl)) (h.hx.mono hb) (has_nil _ _) (anyOf_nil _))

theorem call_isNull (h : Two n w0 x y bx bY w) : Calls Try.prog 15 #[.iface 56 (.pointer (some ⟨w.heap.size, 0, none⟩))] (w.alloc (.cells #[x, .bool false] 58)) (JPost n w0 x y bx bY bx) :=
  have hb := below_new w (.cells #[x, .bool false] 58)
  call_has h hb (by simpa using has_node (by decide) (cuts56 (newest rfl)) (h.hx.mono hb) (has_nil _ _) (anyOf_nil _))

theorem call_cast {T : TypeId} {z : Value} (h : Two n w0 x (.iface T z) bx bY w) : Calls Try.prog 15 #[.iface 59 (.pointer (some ⟨w.heap.size, 0, none⟩))] (w.alloc (.cells #[.iface T z, .int .u8 0, .int .i64 0] 62)) (JPost n w0 x (.iface T z) bx bY bY) :=
  have hb := below_new w (.cells #[.iface T z, .int .u8 0, .int .i64 0] 62)
  call_has h hb (by simpa using has_node (by decide) (cuts59 (newest rfl)) (has_nil _ _) (has_nil _ _) (anyOf_one (h.hy.mono hb)))

theorem call_interval (h : Two n w0 x y bx bY w) : Calls Try.prog 15 #[.iface 63 (.pointer (some ⟨w.heap.size, 0, none⟩))] (w.alloc (.cells #[y, .int .u8 0] 66)) (JPost n w0 x y bx bY bY) :=
  have hb := below_new w (.cells #[y, .int .u8 0] 66)
  call_has h hb (by simpa using has_node (by decide) (cuts63 (newest rfl)) (has_nil _ _) (h.hy.mono hb) (anyOf_nil _))

theorem call_agg (h : Two n w0 x y bx bY w) : Calls Try.prog 15 #[.iface 67 (.pointer (some ⟨w.heap.size, 0, none⟩))] (w.alloc (.cells #[.int .u8 0, .string ⟨#[]⟩, x, .bool false] 70)) (JPost n w0 x y bx bY true) :=
  have hb := below_new w (.cells #[.int .u8 0, .string ⟨#[]⟩, x, .bool false] 70)
  call_has h hb (has_agg (cuts67 (newest rfl)))

end

end Go.Proofs.Qxb6615599a
