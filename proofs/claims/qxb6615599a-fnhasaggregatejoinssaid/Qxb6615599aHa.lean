import Derived.Test.Qxb6615599aB0
namespace Go.Proofs.Qxb6615599a
open Go.RowKit
set_option linter.unusedVariables false
set_option maxRecDepth 100000

/-- What 'parts' tells of an expression beside its operands: one value of seven cells. -/
def pv (k op : Int) (fl : Bool) (n : Int) (s : ByteArray) : Value := .agg #[.int .u8 k, .int .u8 op, .bool fl, .int .i64 n, .string s, .string ⟨#[]⟩, .string ⟨#[]⟩]

/-- A list of expressions as it lies: nil, or a block of its own, two at most. -/
def SliceIs (w : World) (sl : Value) (cs : List Value) : Prop :=
  (sl = .slice none 0 0 ∧ cs = []) ∨ ∃ g c, sl = .slice (some ⟨g, 0, none⟩) cs.length c ∧ w.heap[g]? = some (.cells cs.toArray 29 (0, 0)) ∧ cs.length ≤ 2 ∧ cs ≠ []

theorem SliceIs.mono {w w' : World} {sl : Value} {cs : List Value} (h : SliceIs w sl cs) (hb : Below w.heap.size w w') : SliceIs w' sl cs := by
  rcases h with h | ⟨g, c, h1, h2, h3⟩
  · exact .inl h
  · exact .inr ⟨g, c, h1, Below.blk hb h2, h3⟩

theorem bnext {a b c : World} (h : Below a.heap.size a b) (k : Below b.heap.size b c) : Below a.heap.size a c := h.trans (k.mono h.size)

/-- In every later world 'parts' takes v apart so. -/
def Cuts (w : World) (v p l r : Value) (cs : List Value) : Prop :=
  ∀ w', Below w.heap.size w w' → Calls Try.prog 21 #[v] w' fun e w'' => ∃ sl, e = .returned (.tuple #[p, l, r, sl]) ∧ SliceIs w'' sl cs ∧ Below w'.heap.size w' w''

theorem Cuts.mono {w w' : World} {v p l r : Value} {cs : List Value} (h : Cuts w v p l r cs) (hb : Below w.heap.size w w') : Cuts w' v p l r cs :=
  fun w'' h'' => h w'' (bnext hb h'')

/-- The first that holds, or none. -/
def AnyOf (H : Value → Bool → Prop) (cs : List Value) (la : Bool) : Prop :=
  (la = true ∧ ∃ (i : Nat) (c : Value), cs[i]? = some c ∧ H c true ∧ ∀ j : Nat, j < i → ∀ c', cs[j]? = some c' → H c' false) ∨ (la = false ∧ ∀ (j : Nat) (c : Value), cs[j]? = some c → H c false)

theorem AnyOf.mono {H K : Value → Bool → Prop} {cs : List Value} {la : Bool} (h : AnyOf H cs la) (hk : ∀ v b, H v b → K v b) : AnyOf K cs la := by
  rcases h with ⟨h1, i, c, h2, h3, h4⟩ | ⟨h1, h2⟩
  · exact .inl ⟨h1, i, c, h2, hk _ _ h3, fun j hj c' h' => hk _ _ (h4 j hj c' h')⟩
  · exact .inr ⟨h1, fun j c h' => hk _ _ (h2 j c h')⟩

/-- v is an expression of depth n at most, and b tells whether it holds an aggregate. -/
def Has : Nat → World → Value → Bool → Prop
  | 0, w, v, b => v = .nilIface ∧ b = false
  | n + 1, w, v, b => (v = .nilIface ∧ b = false) ∨ ∃ T a k op fl m s l r cs, v = .iface T (.pointer (some a)) ∧ Cuts w v (pv k op fl m s) l r cs ∧
      ((k = 11 ∧ b = true) ∨ (k ≠ 11 ∧ ∃ br, Has n w r br ∧ ((br = true ∧ b = true) ∨ (br = false ∧ ∃ la, AnyOf (Has n w) cs la ∧ ((la = true ∧ b = true) ∨ (la = false ∧ Has n w l b))))))

theorem Has.mono {n : Nat} : ∀ {w w' : World} {v : Value} {b : Bool}, Has n w v b → Below w.heap.size w w' → Has n w' v b := by
  induction n with
  | zero => intro w w' v b h hb; exact h
  | succ n ih =>
    intro w w' v b h hb
    rcases h with h | ⟨T, a, k, op, fl, m, s, l, r, cs, hv, hc, h⟩
    · exact .inl h
    · refine .inr ⟨T, a, k, op, fl, m, s, l, r, cs, hv, hc.mono hb, ?_⟩
      rcases h with h | ⟨hk, br, hr, h⟩
      · exact .inl h
      · refine .inr ⟨hk, br, ih hr hb, ?_⟩
        rcases h with h | ⟨h1, la, hl, h⟩
        · exact .inl h
        · refine .inr ⟨h1, la, hl.mono fun v b h => ih h hb, ?_⟩
          rcases h with h | ⟨h2, h3⟩
          · exact .inl h
          · exact .inr ⟨h2, ih h3 hb⟩

theorem Has.up {n : Nat} : ∀ {w : World} {v : Value} {b : Bool}, Has n w v b → Has (n + 1) w v b := by
  induction n with
  | zero => intro w v b h; exact .inl h
  | succ n ih =>
    intro w v b h
    rcases h with h | ⟨T, a, k, op, fl, m, s, l, r, cs, hv, hc, h⟩
    · exact .inl h
    · refine .inr ⟨T, a, k, op, fl, m, s, l, r, cs, hv, hc, ?_⟩
      rcases h with h | ⟨hk, br, hr, h⟩
      · exact .inl h
      · refine .inr ⟨hk, br, ih hr, ?_⟩
        rcases h with h | ⟨h1, la, hl, h⟩
        · exact .inl h
        · refine .inr ⟨h1, la, hl.mono fun v b h => ih h, ?_⟩
          rcases h with h | ⟨h2, h3⟩
          · exact .inl h
          · exact .inr ⟨h2, ih h3⟩

theorem Has.le {k n : Nat} (hk : k ≤ n) {w : World} {v : Value} {b : Bool} (h : Has k w v b) : Has n w v b := by
  induction hk with
  | refl => exact h
  | step _ ih => exact ih.up

theorem neq_nil (u : TypeId) (v : Value) (W : World) : (binOp .neq 29 (.iface u v) .nilIface).run Try.prog W = .ok (.bool true) W := by kernel_rfl
theorem below_new (w : World) (o : Obj) : Below w.heap.size w (w.alloc o) := (Below.refl _ _).alloc (Nat.le_refl _) _

/-- The contract of HasAggregate at depth n. -/
def HasC (n : Nat) : Prop := ∀ w v b, Has n w v b → Calls Try.prog 15 #[v] w fun e w' => e = .returned (.bool b) ∧ Below w.heap.size w w'

def IdxRel (n : Nat) (w : World) (cs : List Value) (la : Bool) (k : Nat) (v5 v8 : Value) (wr : World) : Prop :=
  ∃ i : Nat, v8 = .int .i64 i ∧ i + k = cs.length ∧ Below w.heap.size w wr ∧ (la = true → ∃ (i' : Nat) (c : Value), i ≤ i' ∧ cs[i']? = some c ∧ Has n w c true ∧ ∀ j : Nat, j < i' → ∀ c', cs[j]? = some c' → Has n w c' false) ∧ (la = false → ∀ (j : Nat) (c : Value), cs[j]? = some c → Has n w c false)

set_option maxHeartbeats 1000000 in
theorem indexFunc (n : Nat) (ih : HasC n) (w : World) (cs : List Value) (la : Bool) (g c : Nat) (hlen : cs.length ≤ 2) (hg : w.heap[g]? = some (.cells cs.toArray 29 (0, 0))) (ha : AnyOf (Has n w) cs la) :
    Calls Try.prog 24 #[.slice (some ⟨g, 0, none⟩) cs.length c, .func (.func 15) #[] #[]] w fun e w' => ∃ r : Int, e = .returned (.int .i64 r) ∧ (decide (0 ≤ r) = la) ∧ Below w.heap.size w w' := by
  obtain ⟨hc, hf⟩ := rowFacts hg
  have hlt := lt_of_heap hg
  go_enter Try.func24, Try.ntmps24
  go_wp2
  go_loopg [5, 8] cs.length (fun k v5 v8 wr => IdxRel n w cs la k v5 v8 wr)
  case atStart => 
    refine ⟨0, rfl, by simp, Below.refl _ _, fun h => ?_, fun h => ?_⟩
    · rcases ha with ⟨_, i, c, h2, h3, h4⟩ | ⟨h1, _⟩
      · exact ⟨i, c, Nat.zero_le _, h2, h3, h4⟩
      · rw [h] at h1; cases h1
    · rcases ha with ⟨h1, _⟩ | ⟨_, h2⟩
      · rw [h] at h1; cases h1
      · exact h2
  case round =>
    obtain ⟨i, rfl, hik, hb, h1, h2⟩ := hrel
    cases gk with
    | zero =>
      have hi : i = cs.length := by omega
      subst hi
      have hla : la = false := by
        cases la
        · rfl
        · obtain ⟨i', c', hi', hci', _⟩ := h1 rfl
          rw [List.getElem?_eq_none hi'] at hci'; cases hci'
      go_wp2
      go_ret
      exact ⟨_, rfl, by rw [hla]; rfl, hb⟩
    | succ k' =>
      have hi : i < cs.length := by omega
      obtain ⟨x, hx⟩ : ∃ x, cs[i]? = some x := ⟨_, List.getElem?_eq_getElem hi⟩
      have hcr : wr.cell? ⟨g, i, none⟩ = some x := by rw [(rowFacts (Below.blk hb hg)).1, List.getElem?_toArray, hx]
      obtain ⟨bx, hbx, hbt, hbf⟩ : ∃ bx, Has n w x bx ∧ (bx = true → la = true) ∧ (bx = false → la = true → ∃ (i' : Nat) (c : Value), i + 1 ≤ i' ∧ cs[i']? = some c ∧ Has n w c true ∧ ∀ j : Nat, j < i' → ∀ c', cs[j]? = some c' → Has n w c' false) := by
        cases la
        · exact ⟨false, h2 rfl i x hx, fun h => (by cases h), fun _ h => by cases h⟩
        · obtain ⟨i', c', hi', hci', hct, hcf⟩ := h1 rfl
          by_cases he : i = i'
          · subst he
            rw [hx] at hci'; cases hci'
            exact ⟨true, hct, fun _ => rfl, fun h => by cases h⟩
          · exact ⟨false, hcf i (by omega) x hx, fun h => (by cases h), fun _ _ => ⟨i', c', by omega, hci', hct, hcf⟩⟩
      clear h1
      have hcall := ih wr x bx (hbx.mono hb)
      cases bx
      · have hbf' := hbf rfl
        clear hbf hbt
        go_wp2_with (go_at_call 15; refine hcall.mono ?_; rintro e w1 ⟨rfl, hb1⟩)
        go_roundg k'
        case measure => omega
        case rel => exact ⟨i + 1, by go_num, by omega, bnext hb hb1, hbf', h2⟩
      · have hbt' := hbt rfl
        clear hbf hbt
        go_wp2_with (go_at_call 15; refine hcall.mono ?_; rintro e w1 ⟨rfl, hb1⟩)
        go_ret
        exact ⟨i, rfl, by rw [hbt']; simp, bnext hb hb1⟩

set_option maxHeartbeats 1000000 in
theorem indexFunc_nil (w : World) :
    Calls Try.prog 24 #[.slice none 0 0, .func (.func 15) #[] #[]] w fun e w' => e = .returned (.int .i64 (-1)) ∧ Below w.heap.size w w' := by
  go_enter Try.func24, Try.ntmps24
  go_wp2
  refine wp_loop_rounds 1 ?_
  rw [rounds_succ]
  go_wp2
  go_ret
  exact ⟨rfl, Below.refl _ _⟩

theorem anyNil {H : Value → Bool → Prop} {la : Bool} (h : AnyOf H [] la) : la = false := by
  rcases h with ⟨_, i, c, h2, _⟩ | ⟨h, _⟩
  · cases h2
  · exact h

set_option maxHeartbeats 1000000 in
theorem containsFunc (n : Nat) (ih : HasC n) (w : World) (cs : List Value) (la : Bool) (sl : Value) (hs : SliceIs w sl cs) (ha : AnyOf (Has n w) cs la) :
    Calls Try.prog 23 #[sl, .func (.func 15) #[] #[]] w fun e w' => e = .returned (.bool la) ∧ Below w.heap.size w w' := by
  rcases hs with ⟨rfl, rfl⟩ | ⟨g, c, rfl, hg, hlen, _⟩
  · have hla := anyNil ha
    subst hla
    go_enter Try.func23, Try.ntmps23
    go_wp2_with (go_at_call 24; refine (indexFunc_nil _).mono ?_; rintro e w1 ⟨rfl, hb1⟩)
    go_ret
    exact ⟨rfl, hb1⟩
  · have hcall := indexFunc n ih w cs la g c hlen hg ha
    go_enter Try.func23, Try.ntmps23
    go_wp2_with (go_at_call 24; refine hcall.mono ?_; rintro e w1 ⟨r, rfl, hr, hb1⟩)
    go_ret
    exact ⟨by rw [← hr]; rfl, hb1⟩

def LoopRel (w : World) (b : Bool) (k : Nat) (v0 : Value) (wr : World) : Prop := Below w.heap.size w wr ∧ Has k wr v0 b

set_option maxHeartbeats 2000000 in
theorem hasAggregate : ∀ n, HasC n := by
  intro n
  induction n with
  | zero =>
    rintro w v b ⟨rfl, rfl⟩
    go_enter Try.func15, Try.ntmps15
    go_wp2
    refine wp_loop_rounds 1 ?_
    rw [rounds_succ]
    go_wp2
    go_ret
    exact ⟨rfl, Below.refl _ _⟩
  | succ n ih =>
    intro w v b h
    go_enter Try.func15, Try.ntmps15
    go_wp2
    go_loopg [0, 2, 3, 4, 5, 6] (n + 1) (fun k v0 _ _ _ _ _ wr => k ≤ n + 1 ∧ LoopRel w b k v0 wr)
    case atStart => exact ⟨Nat.le_refl _, Below.refl _ _, h⟩
    case round =>
      obtain ⟨hkn, hb, hh⟩ := hrel
      cases gk with
      | zero =>
        obtain ⟨rfl, rfl⟩ := hh
        go_wp2
        go_ret
        exact ⟨rfl, hb⟩
      | succ k' =>
        rcases hh with ⟨rfl, rfl⟩ | ⟨T, a, k, op, fl, m, s, l, r, cs, rfl, hc, hh⟩
        · go_wp2
          go_ret
          exact ⟨rfl, hb⟩
        · have hnn := neq_nil T (.pointer (some a))
          have hcall := hc _ (Below.refl _ _)
          have hk' : k' ≤ n := by omega
          simp only [pv] at hcall
          rcases hh with ⟨rfl, rfl⟩ | ⟨hk, br, hr, hh⟩
          · go_wp2_with (go_at_call 21; refine hcall.mono ?_; rintro e w1 ⟨sl, rfl, hsl, hb1⟩)
            go_ret
            exact ⟨rfl, bnext (bnext hb hb1) (below_new _ _)⟩
          · have hk11 : (k == 11) = false := by simp [hk]
            rcases hh with ⟨rfl, rfl⟩ | ⟨rfl, la, hl, hh⟩
            · go_wp2_with (first | (go_at_call 21; refine hcall.mono ?_; rintro e w1 ⟨sl, rfl, hsl, hb1⟩) | (go_at_call 15; refine (ih _ _ true ((Has.le hk' hr).mono (by exact bnext hb1 (below_new _ _)))).mono ?_; rintro e w2 ⟨rfl, hb2⟩))
              go_ret
              exact ⟨rfl, bnext (bnext (bnext hb hb1) (below_new _ _)) hb2⟩
            · rcases hh with ⟨rfl, rfl⟩ | ⟨rfl, hll⟩
              · go_wp2_with (first | (go_at_call 21; refine hcall.mono ?_; rintro e w1 ⟨sl, rfl, hsl, hb1⟩) | (go_at_call 15; refine (ih _ _ false ((Has.le hk' hr).mono (by exact bnext hb1 (below_new _ _)))).mono ?_; rintro e w2 ⟨rfl, hb2⟩) | (go_at_call 23; refine (containsFunc n ih _ cs true sl (hsl.mono (by exact bnext (below_new _ _) hb2)) (hl.mono fun v b h => (Has.le hk' h).mono (by exact bnext (bnext hb1 (below_new _ _)) hb2))).mono ?_; rintro e w3 ⟨rfl, hb3⟩))
                go_ret
                exact ⟨rfl, bnext (bnext (bnext (bnext hb hb1) (below_new _ _)) hb2) hb3⟩
              · go_wp2_with (first | (go_at_call 21; refine hcall.mono ?_; rintro e w1 ⟨sl, rfl, hsl, hb1⟩) | (go_at_call 15; refine (ih _ _ false ((Has.le hk' hr).mono (by exact bnext hb1 (below_new _ _)))).mono ?_; rintro e w2 ⟨rfl, hb2⟩) | (go_at_call 23; refine (containsFunc n ih _ cs false sl (hsl.mono (by exact bnext (below_new _ _) hb2)) (hl.mono fun v b h => (Has.le hk' h).mono (by exact bnext (bnext hb1 (below_new _ _)) hb2))).mono ?_; rintro e w3 ⟨rfl, hb3⟩))
                go_roundg k'
                case measure => omega
                case rel => exact ⟨by omega, bnext (bnext (bnext (bnext hb hb1) (below_new _ _)) hb2) hb3, hll.mono (bnext (bnext (bnext hb1 (below_new _ _)) hb2) hb3)⟩

end Go.Proofs.Qxb6615599a
