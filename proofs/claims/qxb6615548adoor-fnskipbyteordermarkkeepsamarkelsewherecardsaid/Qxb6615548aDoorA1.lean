import Derived.Test.Qxb6615548aDoorR5
import Derived.Test.Qxb6615548aDoorInv3
namespace Go.Proofs.Qxb6615548aDoor
open Go.RowKit
set_option linter.unusedVariables false
set_option maxRecDepth 100000

theorem Tryd.row32 : (Tryd.prog.info? 32).map (fun i => (i.zero, i.size, i.bytes)) = some (some (.slice none 0 0), 1, 24) := by kernel_rfl

theorem Tryd.comp53 : (Tryd.prog.info? 53).map (·.comparable) = some true := by kernel_rfl
theorem Tryd.size72 : (Tryd.prog.info? 72).map (·.size) = some 1 := by kernel_rfl
theorem Tryd.eql_same (a : Addr) (w : World) : (binOp .eql 34 (.iface 53 (.pointer (some a))) (.iface 53 (.pointer (some a)))).run Tryd.prog w = .ok (.bool true) w := by
  obtain ⟨i, hi, hcmp⟩ := Option.map_eq_some_iff.1 Tryd.comp53
  obtain ⟨j, hj, _⟩ := Option.map_eq_some_iff.1 Tryd.size72
  exact run_eql_iface_ptr_same w a Tryd.underlying34 Tryd.underlying53 hi hcmp hj
theorem nil_ahead37 (a : Addr) (w : World) : (nilAhead 180 37 (.pointer (some a)) "Read").run Tryd.prog w = .ok (some false) w := by kernel_rfl
theorem method37 (a : Addr) (w : World) : (method 180 37 (.pointer (some a)) "Read").run Tryd.prog w = .ok (37, .pointer (some a)) w := by kernel_rfl

/-- What ReadAll gives back: the bytes full, in a row of its own. -/
def AllRead (w : World) (R B U : Nat) (full : List UInt8) (e : Ending) (w' : World) : Prop :=
  ∃ (g cap : Nat) (cur : List Value), e = .returned (.tuple #[.slice (some ⟨g, 0, none⟩) full.length cap, .nilIface]) ∧ w'.heap[g]? = some (.cells cur.toArray 5 (0, 0)) ∧ cur.take full.length = bytesV full ∧ Chg (fun k => k = R ∨ k = B ∨ k = U) w w'

set_option maxHeartbeats 1600000 in
theorem readAll_any (R B U : Nat) (s : ByteArray) (full : List UInt8) (w : World) (hs : s.size ≤ 2097152) (hfl : full.length ≤ 2097152) (hS : Src w R B U s full) (ae : Addr) (hE : w.cell? ⟨0, 0, none⟩ = some (.iface 53 (.pointer (some ae))))
    (hR0 : 0 < R) (hB0 : 0 < B) (hU0 : 0 < U) (hR : R < w.heap.size) (hB : B < w.heap.size) (hU : U < w.heap.size) :
    Calls Tryd.prog 11 #[.iface 37 (.pointer (some ⟨B, 0, none⟩))] w fun e w' => AllRead w R B U full e w' := by
  have hmk : ∀ w, (Instr.makeSlice 32 (.int .i64 0) (.int .i64 512)).run Tryd.prog w = .ok (.slice (some ⟨w.heap.size, 0, none⟩) 0 512) (w.alloc (.cells (zs 512).toArray 5)) :=
    fun w => make_bytes 0 512 (by omega) (by omega) w
  have hmk2 : ∀ w, (Instr.makeSlice 44 (.int .i64 0) (.int .i64 4)).run Tryd.prog w = .ok (.slice (some ⟨w.heap.size, 0, none⟩) 0 4) (w.alloc (.cells #[.slice none 0 0, .slice none 0 0, .slice none 0 0, .slice none 0 0] 32)) :=
    fun w => by kernel_rfl
  go_enter Tryd.func11, Tryd.ntmps11
  go_wp2
  clear hmk hmk2
  have hna := nil_ahead37
  have hmt := method37
  go_loopg [4, 5, 6, 7] full.length (fun k vb vn vc vf wr => Rel w R B U s full k vb vn vc vf wr)
  case atStart => exact rel_start hS
  case round =>
    obtain ⟨⟨gb, cb, bb⟩, nx, cks, rem, rfl, rfl, rfl, rfl, hat⟩ := hrel
    obtain ⟨cur, hrow, hcl, hct⟩ := hat.row
    have hl := hat.len
    have hc0 := hat.cap
    have hcM := hat.capM
    simp only at hrow hcl hct hl hc0 hcM
    have hAt : Hid (At w R B U s full ⟨gb, cb, bb⟩ nx u6 cks rem wr) := hat
    simp only [Ck.val]
    have hl0 : (0 : Int) ≤ (bb.length : Int) := by omega
    have hl1 : (bb.length : Int) ≤ (cb : Int) := by omega
    have hl2 : ¬ cb = bb.length := by omega
    have hSr := hat.src
    have hgU : gb ≠ U := by have := hat.blk; simp only at this; omega
    clear hat hS
    by_cases hrem : rem = []
    · subst hrem
      have hfull0 : Hid (full = cat cks ++ bb ++ []) := hAt.out.full
      have hErr : wr.cell? ⟨0, 0, none⟩ = some (.iface 53 (.pointer (some ae))) := hAt.out.chg.cell hE (by show ¬ (0 = R ∨ 0 = B ∨ 0 = U); omega)
      have heq := Tryd.eql_same ae
      go_wp2
      go_region_held3 (fun w' => True) (trivial) (first | (go_at_call 37; refine (read_none R B U s gb bb.length (cb - bb.length) (cb - bb.length) _ hs (by exact hSr) (by omega) (by omega) 53 (.pointer (some ae)) (by exact hErr) hB0).mono ?_; rintro e w2 ⟨rfl, hc2, hz2⟩))
      have hE2 := hc2.cell (by exact hErr) (by show ¬ 0 = B; omega)
      clear hz2
      have hcI : (cb : Int) ≤ 9223372036854775807 := by omega
      have hown := hAt.out.own
      have hlies : Hid (∀ c ∈ cks, c.lies wr ∧ c.blk ≠ gb ∧ w.heap.size ≤ c.blk) := hAt.out.lies
      have hblk : w.heap.size ≤ gb := hAt.out.blk
      have hcw : Chg (fun k => k = R ∨ k = B ∨ k = U) w w2 := (hAt.out.chg.drew).trans (hc2.mono fun k _ h => Or.inr (Or.inl h))
      have hrow2 := hc2.heap (by exact hrow) (by show ¬ gb = B; omega)
      obtain ⟨hown1, hown2⟩ := hown
      rcases hown2 with ⟨rfl, hn0⟩ | ⟨gc, capc, curc, rfl, hgc, hrc, hle, hmx, hcs, htk⟩
      · have hck : cks = [] := List.eq_nil_of_length_eq_zero hn0
        go_wp2_with fail
        go_ret2
        refine ⟨gb, cb, cur, ?_, hrow2, ?_, hcw⟩
        · rw [hfull0.out, hck]; simp [cat]
        · rw [hfull0.out, hck]; simpa [cat] using hct
      · by_cases hck : cks = []
        · subst hck
          go_wp2_with fail
          go_ret2
          refine ⟨gb, cb, cur, ?_, hrow2, ?_, hcw⟩
          · rw [hfull0.out]; simp [cat]
          · rw [hfull0.out]; simpa [cat] using hct
        · have hckl : ((cks.length : Int) == 0) = false := by
            have : cks.length ≠ 0 := fun h => hck (List.eq_nil_of_length_eq_zero h)
            simp; omega
          have hckp : 0 < cks.length := Nat.pos_of_ne_zero fun h => hck (List.eq_nil_of_length_eq_zero h)
          have hfew := hAt.out.few
          obtain ⟨i5, hi5, hy0, hy1, hy2⟩ := info_parts Tryd.row5
          have hfull2 : (cat cks).length + bb.length ≤ 2097152 := by
            have := hfull0.out; rw [this] at hfl; simpa [List.length_append, Nat.add_assoc] using hfl
          have hfI : ((cat cks).length : Int) + (bb.length : Int) ≤ 2097152 := by omega
          clear hAt hfl
          go_wp2_with (first | (at_builtin; refine wpList_append_make rfl (.const (.slice none 0 0)) (.tmp 49) 32 3 rfl 5 i5 Tryd.underlying32 Tryd.underlying3 hi5 hy0 hy1 hy2 rfl ((cat cks).length + bb.length) rfl (by omega) (by omega) ?_; intro c w4 hc1 hc2' hnew hc4))
          have hgbl : gb < w2.heap.size := lt_of_heap hrow2
          have hrc2 := hc2.heap (by exact hrc) (by show ¬ gc = B; omega)
          have hgcl : gc < w2.heap.size := lt_of_heap hrc2
          have hrow4 := hc4.heap hrow2 (fun h => h)
          have hrc4 := hc4.heap hrc2 (fun h => h)
          have hlies4 : Hid (∀ c ∈ cks, c.lies w4 ∧ c.blk < w2.heap.size) := by
            intro ck hck
            obtain ⟨⟨x, l1, l2⟩, l3, l4⟩ := hlies.out ck hck
            have l5 := hc2.heap (by exact l1) (by show ¬ ck.blk = B; omega)
            exact ⟨⟨x, hc4.heap l5 (fun h => h), l2⟩, lt_of_heap l5⟩
          have hfin0 : Hid (Fin w4 cks w2.heap.size c cks.length (.slice (some ⟨w2.heap.size, 0, none⟩) 0 c) (.int .i64 0) w4) := fin_start hnew
          have hcw4 : Chg (fun k => k = R ∨ k = B ∨ k = U) w w4 := hcw.trans (hc4.mono fun _ _ h => h.elim)
          have hwsz : w.heap.size ≤ w2.heap.size := hcw.size
          have Hct : Hid (cur.take bb.length = bytesV bb) := hct
          have Htk : Hid (curc.toList.take (cks.length * 1) = cks.map Ck.val) := htk
          clear hct htk hcs hmx hown1 hck hckl hlies hrc hrow hE2 hErr hSr hc2 hnew hc4 heq hna hmt hrow2 hrc2 hcl hcw
          generalize w2.heap.size = gf at *
          go_loopg [10, 54] cks.length (fun k vfin vj wx => Fin w4 cks gf c k vfin vj wx)
          case atStart => exact hfin0.out
          case round =>
            obtain ⟨j, curf, hjk, rfl, rfl, hgf, hcl', hct', hcx⟩ := hrel
            have Hct' : Hid (curf.take (cat (cks.take j)).length = bytesV (cat (cks.take j))) := hct'
            clear hct' hfin0
            cases gk with
            | zero =>
              have hj : j = cks.length := by omega
              subst hj
              rw [List.take_length] at Hct' ⊢
              have hgbx := hcx.heap hrow4 (by show ¬ gb = gf; omega)
              have Hone : Hid (∀ v ∈ cur.take bb.length, v.oneCell' = true) := by
                show ∀ _ ∈ _, _
                rw [Hct.out]; exact oneCell_bytesV _
              have hbl : bb.length ≤ cur.length := by
                have := congrArg List.length Hct.out
                rw [List.length_take, length_bytesV] at this; omega
              go_wp2_with (at_builtin; refine wpList_append_into rfl (.tmp 62) (.tmp 63) 32 rfl 5 i5 Tryd.underlying32 hi5 hy1 gf (cat cks).length c rfl gb bb.length cb rfl curf cur hgf 5 hgbx hbl (by omega) (by omega) Hone.out ?_; intro w5 hg5 hc5 hz5)
              go_ret2
              obtain ⟨h1, h2⟩ := joined Hct'.out Hct.out (by omega)
              refine ⟨gf, c, _, ?_, hg5, ?_, ?_⟩
              · rw [hfull0.out, List.append_nil, List.length_append]; rfl
              · rw [hfull0.out, List.append_nil]; exact h1
              · refine ⟨by rw [hc5.os, hcx.os, hcw4.os], by rw [hc5.tape, hcx.tape, hcw4.tape], by rw [hc5.output, hcx.output, hcw4.output], Nat.le_trans hcw4.size (Nat.le_trans hcx.size hc5.size), fun x hx hn => ?_⟩
                have hx4 : x < w4.heap.size := Nat.lt_of_lt_of_le hx hcw4.size
                rw [hc5.block x (Nat.lt_of_lt_of_le hx4 hcx.size) (by show ¬ x = gf; omega), hcx.block x hx4 (by show ¬ x = gf; omega), hcw4.block x hx hn]
            | succ k =>
              obtain ⟨ck, hck⟩ : ∃ ck, cks[j]? = some ck := ⟨_, List.getElem?_eq_getElem (show j < cks.length by omega)⟩
              obtain ⟨⟨src, hs1, hs2⟩, hs3⟩ := hlies4.out ck (List.mem_of_getElem? hck)
              have hsx := hcx.heap hs1 (by show ¬ ck.blk = gf; omega)
              have hspl := cat_split hck
              have hcell : wr.cell? ⟨gc, j, none⟩ = some (.slice (some ⟨ck.blk, 0, none⟩) ck.bs.length ck.cap) := by
                rw [(rowFacts (hcx.heap hrc4 (by show ¬ gc = gf; omega))).1]
                have h1 : (curc.toList.take (cks.length * 1))[j]? = (cks.map Ck.val)[j]? := by rw [Htk.out]
                rw [List.getElem?_take, if_pos (by omega), List.getElem?_map, hck] at h1
                rw [← Array.getElem?_toList, h1]; rfl
              have hji : (j : Int) < (cks.length : Int) := by omega
              have Hone : Hid (∀ v ∈ src.take ck.bs.length, v.oneCell' = true) := by
                show ∀ _ ∈ _, _
                rw [hs2]; exact oneCell_bytesV _
              have hbl := lies_len hs2
              have Hck : Hid (cks[j]? = some ck) := hck
              have Hs2 : Hid (src.take ck.bs.length = bytesV ck.bs) := hs2
              clear hck hs2 hs1
              go_wp2_with (at_builtin; refine wpList_append_into rfl (.tmp 58) (.tmp 59) 32 rfl 5 i5 Tryd.underlying32 hi5 hy1 gf (cat (cks.take j)).length c rfl ck.blk ck.bs.length ck.cap rfl curf src hgf 5 hsx hbl (by omega) (by omega) Hone.out ?_; intro w5 hg5 hc5 hz5)
              go_roundg k
              case measure => omega
              case rel => exact fin_step Hck.out hjk hcl' Hct'.out Hs2.out (by omega) hcx hg5 hc5
    · go_wp2
      go_region_held3 (fun w' => True) (trivial) (first | (go_at_call 37; refine (read_some R B U s rem gb bb.length (cb - bb.length) (cb - bb.length) cur _ hs (by exact hSr) hrem (by exact hrow) (by omega) hgU (by omega) (by omega)).mono ?_; rintro e w2 ⟨k, rfl, hgot⟩))
      have HG : Hid (Got wr R B U s rem gb bb.length (cb - bb.length) cur k w2) := hgot.undrew
      have hk0 : 0 < k := hgot.1
      have hk1 : k ≤ cb - bb.length := hgot.2.1
      have hsz2 : w.heap.size ≤ w2.heap.size := by
        have h1 := hAt.out.chg.size
        have h2 := HG.out.2.2.2.2.2.1.size
        omega
      have hk2 : (bb.length : Int) + (k : Int) ≤ (cb : Int) := by omega
      have hcI : (cb : Int) ≤ 9223372036854775807 := by omega
      have hb0 : (0 : Int) ≤ (cb : Int) := by omega
      by_cases hfull : (cb : Int) - ((bb.length : Int) + (k : Int)) < (cb : Int) / 16
      · obtain ⟨i0, hi, hz0, hz1, hz2⟩ := info_parts Tryd.row32
        obtain ⟨i5, hi5, hy0, hy1, hy2⟩ := info_parts Tryd.row5
        have hfull2 : (cat cks).length + bb.length + rem.length ≤ 2097152 := by
          have := hAt.out.full; rw [this] at hfl; simpa [List.length_append, Nat.add_assoc] using hfl
        have hkr : k ≤ rem.length := hgot.2.2.1
        have hfew := hAt.out.few
        have hnx1 := hAt.out.nx1
        have hnx0 := hAt.out.nx0
        simp only at hnx1
        have hnxb : nx ≤ 4194304 := by omega
        have hown2 : w2.ownsRow w.heap.size 32 1 u6 cks.length (cks.map Ck.val) := by
          obtain ⟨_, _, _, _, h, _⟩ := hAt.out.read hR hB hU hrow hcl hct HG.out (by simp only; omega)
          exact h
        clear hgot
        go_wp2_with (first | (at_builtin; refine wpList_append_own _ rfl (.tmp 76) (.tmp 78) 44 rfl w.heap.size 32 i0 (.slice none 0 0) 1 24 Tryd.underlying44 hi hz0 hz1 hz2 rfl (by decide) u6 cks.length (cks.map Ck.val) rfl (hown2.alloc _) ⟨w2.heap.size, 0, none⟩ 1 1 [.slice (some ⟨gb, 0, none⟩) (bb.length + k) cb] rfl rfl (cell_one_new _ _ _) (by intro u hu; simp at hu; subst hu; rfl) (by simp only [maxLen]; omega) (by omega) (by simp; omega) ?_; intro vc' w3 hown3 hgr3 _) | (at_builtin; refine wpList_append_make rfl (.const (.slice none 0 0)) (.tmp 84) 32 3 rfl 5 i5 Tryd.underlying32 Tryd.underlying3 hi5 hy0 hy1 hy2 rfl nx rfl (by omega) (by omega) ?_; intro c w4 hc1 hc2 hnew hc4))
        go_roundg (rem.drop k).length
        case measure => rw [List.length_drop]; have := HG.out.2.2.1; omega
        case rel =>
          rw [show ((nx : Int) + (nx : Int) / 2) = ((nx + nx / 2 : Nat) : Int) from by omega, show (((cat cks).length : Int) + ((bb.length : Int) + (k : Int))) = (((cat cks).length + (bb.length + k) : Nat) : Int) from by omega]
          exact rel_full hAt.out hR hB hU hrow hcl hct HG.out (by omega) hown3 hgr3 hc1 hc2 hnew hc4
      · have hless : bb.length + k < cb := by omega
        clear hgot
        go_wp2_with fail
        go_roundg (rem.drop k).length
        case measure => rw [List.length_drop]; have := HG.out.2.2.1; omega
        case rel => exact rel_more hAt.out hR hB hU hrow hcl hct HG.out (by omega) hless

end Go.Proofs.Qxb6615548aDoor
