import Derived.Test.YbulkdkcwFmtLawB
namespace Go.Proofs.YbulkdkcwFmt
open Go.RowKit Go.Stop
attribute [local go_sem ↓] Go.wp_at_zero Go.wp_at_succ

set_option maxHeartbeats 4000000 in
set_option maxRecDepth 100000 in
theorem law_big (lf ty trunc lim : Int) (ba : Option Addr) (bl bc : Nat) (ca : Option Addr) (cl cc : Nat) (fail : Bool) (w : World) (h : 1048576 < bl ∨ 1048576 < cl) :
    Calls Ybaf.prog 3 #[.int .u32 lf, .int .u8 ty, .slice ba bl bc, .int .u32 trunc, .slice ca cl cc, .bool fail, .int .i64 lim] w fun e w' => e = .returned (.bool true) ∧ Below w.heap.size w w' := by
  by_cases h1 : (1048576 : Int) < (bl : Int)
  · go_enter Ybaf.func3, Ybaf.ntmps3
    go_wp2
    go_ret
    exact ⟨rfl, Below.refl _ _⟩
  · have h2 : (1048576 : Int) < (cl : Int) := by omega
    go_enter Ybaf.func3, Ybaf.ntmps3
    go_wp2
    go_ret
    exact ⟨rfl, Below.refl _ _⟩

/-- The four variables that the law reads, at the call's beginning. -/
structure Vars (p0 p1 p2 : Addr) (w : World) : Prop where
  c0 : w.cell? ⟨0, 0, none⟩ = some (.iface 40 (.pointer (some p0)))
  c1 : w.cell? ⟨1, 0, none⟩ = some (.iface 40 (.pointer (some p1)))
  c2 : w.cell? ⟨2, 0, none⟩ = some (.iface 40 (.pointer (some p2)))
  s0 : ∃ s, w.cell? p0 = some (.string s)
  b0 : ∃ c t, w.heap[p0.block]? = some (.cells c t (0, 0))
  b1 : ∃ c t, w.heap[p1.block]? = some (.cells c t (0, 0))
  b2 : ∃ c t, w.heap[p2.block]? = some (.cells c t (0, 0))
  n01 : p0 ≠ p1
  n02 : p0 ≠ p2
  n12 : p1 ≠ p2
theorem lt_of_block {w : World} {g : Nat} (h : ∃ c t, w.heap[g]? = some (.cells c t (0, 0))) : g < w.heap.size := by
  obtain ⟨c, t, h⟩ := h
  rcases Nat.lt_or_ge g w.heap.size with e | e
  · exact e
  · rw [Array.getElem?_eq_none e] at h; cases h

theorem eql_nil23 (a : Option Addr) (l c : Nat) (w : World) : (binOp .eql 23 (.slice a l c) (.slice none 0 0)).run Ybaf.prog w = .ok (.bool a.isNone) w := by
  simp only [binOp]
  simp [run_equal_slice_nil w 23 5 a l c Ybaf.underlying23]
/-- The text of the reader's own failure. -/
abbrev sMine : ByteArray := ⟨#[122, 122, 32, 115, 116, 97, 110, 100, 45, 105, 110, 32, 102, 97, 105, 108, 117, 114, 101]⟩
/-- The reader as it is laid. -/
abbrev rdObj (fg dl cp : Nat) (ca : Option Addr) (cl cc : Nat) (fail : Bool) (m : Nat) : Obj := .cells #[.slice (some ⟨fg, 0, none⟩) dl cp, .int .i64 0, .slice ca cl cc, .int .i64 0, .bool fail, .iface 40 (.pointer (some ⟨m, 0, none⟩))] 31
theorem setup {p0 p1 p2 : Addr} {w w2 : World} (V : Vars p0 p1 p2 w) (b2 : Below w.heap.size w w2) {fg dl cp : Nat} {D : Nat → Int} (hby : Bytes w2 fg dl D) (hfl : fg < w2.heap.size) (hsz : 4 ≤ w2.heap.size) {ca : Option Addr} {cl cc : Nat} {cz : Nat → Int} (hC : Ck w ca cl cz) (fail : Bool) (s : ByteArray) :
    Gl (w2.heap.size + 1) p0 p1 p2 ⟨w2.heap.size, 0, none⟩ fg dl D ca cl cz ((w2.alloc (.cells #[.string s] 42)).alloc (rdObj fg dl cp ca cl cc fail w2.heap.size)) ∧
    Rd ((w2.alloc (.cells #[.string s] 42)).alloc (rdObj fg dl cp ca cl cc fail w2.heap.size)) (w2.heap.size + 1) fg dl cp 0 0 ca cl cc fail ⟨w2.heap.size, 0, none⟩ ∧
    w2.heap.size + 1 < ((w2.alloc (.cells #[.string s] 42)).alloc (rdObj fg dl cp ca cl cc fail w2.heap.size)).heap.size ∧
    Below w.heap.size w ((w2.alloc (.cells #[.string s] 42)).alloc (rdObj fg dl cp ca cl cc fail w2.heap.size)) := by
  have hs := b2.size
  have k0 := lt_of_block V.b0
  have k1 := lt_of_block V.b1
  have k2 := lt_of_block V.b2
  have y0 := World.block_lt_of_cell? _ _ V.c0
  have y1 := World.block_lt_of_cell? _ _ V.c1
  have y2 := World.block_lt_of_cell? _ _ V.c2
  have x2 : Below w2.heap.size w2 ((w2.alloc (.cells #[.string s] 42)).alloc (rdObj fg dl cp ca cl cc fail w2.heap.size)) := ((Below.refl _ _).alloc (Nat.le_refl _) _).alloc (by simp) _
  have x0 : Below w.heap.size w ((w2.alloc (.cells #[.string s] 42)).alloc (rdObj fg dl cp ca cl cc fail w2.heap.size)) := b2.trans (x2.mono hs)
  have hm : ((w2.alloc (.cells #[.string s] 42)).alloc (rdObj fg dl cp ca cl cc fail w2.heap.size)).heap[w2.heap.size]? = some (.cells #[.string s] 42 (0, 0)) := (Below.heap_alloc _ _ _ (by simp)).trans (heap_new _ _)
  have hr : ((w2.alloc (.cells #[.string s] 42)).alloc (rdObj fg dl cp ca cl cc fail w2.heap.size)).heap[w2.heap.size + 1]? = some (rdObj fg dl cp ca cl cc fail w2.heap.size) := heap_new_at _ _ _ (by simp)
  refine ⟨{ lo := by omega, c0 := (x0.cell y0).trans V.c0, c1 := (x0.cell y1).trans V.c1, c2 := (x0.cell y2).trans V.c2, s0 := ?_, sm := ⟨s, (cell_of_row hm 0).trans rfl⟩, b0 := ?_, b1 := ?_, b2 := ?_, bm := ⟨_, _, hm⟩, l0 := by omega, l1 := by omega, l2 := by omega, lm := Nat.lt_succ_self _, n01 := V.n01, n02 := V.n02, n0m := ?_, n12 := V.n12, n1m := ?_, n2m := ?_, data := ?_, ld := by omega, chunks := ?_, lc := ?_ }, ?_, by simp, x0⟩
  · obtain ⟨t, ht⟩ := V.s0; exact ⟨t, (x0.cell k0).trans ht⟩
  · rw [x0.block _ k0]; exact V.b0
  · rw [x0.block _ k1]; exact V.b1
  · rw [x0.block _ k2]; exact V.b2
  · rintro rfl; simp at k0; omega
  · rintro rfl; simp at k1; omega
  · rintro rfl; simp at k2; omega
  · exact ⟨fun i hi => (x2.cell (p := ⟨fg, i, none⟩) hfl).trans (hby.1 i hi), hby.2⟩
  · refine ⟨?_, hC.2⟩
    rcases hC.1 with e | ⟨e, cb, co, ha, hb⟩
    · exact .inl e
    · refine .inr ⟨e, cb, co, ha, fun i hi => (x0.cell (p := ⟨cb, co + i, none⟩) ?_).trans (hb i hi)⟩
      exact World.block_lt_of_cell? w _ (hb i hi)
  · intro hc a ha
    rcases hC.1 with e | ⟨e, cb, co, ha', hb⟩
    · omega
    · have := World.block_lt_of_cell? w _ (hb 0 hc)
      rw [ha'] at ha
      cases ha
      simp at this ⊢
      omega
  · exact ⟨(cell_of_row hr 0).trans rfl, (cell_of_row hr 1).trans rfl, (cell_of_row hr 2).trans rfl, (cell_of_row hr 3).trans rfl, (cell_of_row hr 4).trans rfl, (cell_of_row hr 5).trans rfl, fun i => frozen_of_row hr i⟩

set_option maxHeartbeats 8000000 in
set_option maxRecDepth 100000 in
theorem law_main (F : Interp) (lf ty trunc limit lim : Int) (ba : Option Addr) (bl bc : Nat) (bz : Nat → Int) (ca : Option Addr) (cl cc : Nat) (cz : Nat → Int) (fail : Bool) (p0 p1 p2 : Addr) (dl : Nat) (w : World) (hF : F.answers w.tape)
    (l0 : 0 ≤ lf) (l1 : lf < 4294967296) (t0 : 0 ≤ ty) (t1 : ty < 256) (u0 : 0 ≤ trunc) (u1 : trunc < 4294967296) (hb : bl ≤ 1048576) (hc : cl ≤ 1048576)
    (hB : Ck w ba bl bz) (hC : Ck w ca cl cz) (V : Vars p0 p1 p2 w) (hlim : (1048576 < limit ∧ lim = 1048576) ∨ (limit ≤ 1048576 ∧ lim = limit))
    (hdl : (trunc = 0 ∧ dl = 5 + bl) ∨ (trunc ≠ 0 ∧ (trunc - 1) % (5 + (bl : Int) + 1) = dl)) :
    Calls Ybaf.prog 3 #[.int .u32 lf, .int .u8 ty, .slice ba bl bc, .int .u32 trunc, .slice ca cl cc, .bool fail, .int .i64 limit] w fun e w' => e = .returned (.bool true) ∧ Below w.heap.size w w' := by
  have h1 : ¬ (1048576 : Int) < (bl : Int) := by omega
  have h2 : ¬ (1048576 : Int) < (cl : Int) := by omega
  obtain ⟨i5, hi5, he⟩ := Option.map_eq_some_iff.1 info5all
  simp only [Prod.mk.injEq] at he
  obtain ⟨hz0, hz1, hz2⟩ := he
  obtain ⟨MK, hmk, hMK⟩ : ∃ MK, (Instr.makeSlice 23 (.int .i64 0) (.int .i64 (5 + (bl : Int)))).run Ybaf.prog w = .ok (.slice (some ⟨w.heap.size, 0, none⟩) 0 (5 + bl)) (w.alloc MK) ∧ Hid ((w.alloc MK).ownsRow w.heap.size 5 1 (.slice (some ⟨w.heap.size, 0, none⟩) 0 (5 + bl)) 0 []) := by
    have h := run_make (P := Ybaf.prog) w 23 5 i5 _ Ybaf.underlying23 hi5 hz0 .i64 .i64 0 (5 + (bl : Int)) (by omega) (by omega) (by rw [hz2]; omega) (by omega)
    have e1 : (5 + (bl : Int)).toNat = 5 + bl := by omega
    rw [e1] at h
    exact ⟨_, h, World.ownsRow_made w _ _ (Nat.le_refl _) (by unfold maxLen; omega) (by rw [size_madeCells, hz1])⟩
  have bl0 : Below w.heap.size w (w.alloc MK) := (Below.refl _ _).alloc (Nat.le_refl _) _
  clear hi5 hz0 hz1 hz2
  go_enter Ybaf.func3, Ybaf.ntmps3
  go_upto_if 34 with fail
  go_cut [15] (fun s15 w' => s15 = .int .i64 lim ∧ w' = w)
  case first =>
    by_cases hL : 1048576 < limit
    · obtain rfl : lim = 1048576 := by omega
      go_wp2_with fail
      go_meet
      case rel => exact ⟨rfl, rfl⟩
    · obtain rfl : lim = limit := by omega
      go_wp2_with fail
      go_meet
      case rel => exact ⟨rfl, rfl⟩
  case rest =>
    obtain ⟨rfl, hw⟩ := hcut
    rw [hw]
    clear hw
    go_upto_region 8 with (at_builtin; refine wpList_app8 w (bl0.alloc (by simp) _) rfl _ _ rfl (.slice (some ⟨w.heap.size, 0, none⟩) 0 (5 + bl)) 0 [] rfl (hMK.out.alloc _) ⟨w.heap.size + 1, 0, none⟩ 5 5 ((hdr5 lf ty).map B8) rfl rfl (World.news_of_block (cs := #[B8 (lf / 16777216), B8 (lf / 65536 % 256), B8 (lf / 256 % 256), B8 (lf % 256), B8 ty]) (t := 5) (fr := (0, 0)) (by exact heap_new_at _ _ _ (by simp))) (by simp [Value.oneCell', hdr5]) (by omega) (by omega) ?_; intro fg1 cp1 w1 hown1 bl1)
    replace hown1 : Hid _ := hown1
    clear hMK hmk bl0
    go_upto_region 9 with (at_builtin; refine wpList_app8_any w bl1 rfl _ _ rfl fg1 cp1 5 _ rfl hown1.out ba bl bc bz rfl hB (by omega) ?_; intro fg cp w2 hown bl2)
    clear hown1 bl1
    obtain ⟨hcap, hcm, hfb, hfl⟩ := cap_of_own hown
    have hby : Bytes w2 fg (5 + bl) (df lf ty bz) := bytes_of_own hown (df_get lf ty bz bl) (df_bd lf ty bz l0 l1 t0 t1 hB.2)
    clear hown
    unfold maxLen at hcm
    have hdl2 : dl ≤ 5 + bl := by
      rcases hdl with ⟨_, h⟩ | ⟨_, h⟩
      · omega
      · have := Int.emod_lt_of_pos (trunc - 1) (show 0 < 5 + (bl : Int) + 1 by omega); omega
    go_upto_if 58 with fail
    go_cut [16] (fun s16 w' => s16 = .slice (some ⟨fg, 0, none⟩) dl cp ∧ w' = w2)
    case first =>
      by_cases hT : trunc = 0
      · obtain rfl : dl = 5 + bl := by rcases hdl with h | h <;> omega
        replace hT : (trunc != 0) = false := by rw [hT]; rfl
        clear hdl hlim hdl2
        go_wp2_with fail
        go_meet
        case rel => exact ⟨rfl, rfl⟩
      · have hm : (trunc - 1) % (5 + (bl : Int) + 1) = dl := by rcases hdl with h | h; (· exact absurd h.1 hT); (· exact h.2)
        have g1 : IntKind.u32.wrap (trunc - 1) = trunc - 1 := by rw [IntKind.wrap_u32]; omega
        have g2 : ¬ (5 + (bl : Int) + 1 = 0) := by omega
        have g3 : (dl : Int) ≤ (cp : Int) := by omega
        have g4 : (0 : Int) ≤ (dl : Int) := by omega
        clear hdl hlim hdl2
        go_wp2_with fail
        go_meet
        case rel => exact ⟨rfl, rfl⟩
    case rest =>
      obtain ⟨rfl, hw⟩ := hcut
      rw [hw]
      clear hw
      have y2 := World.block_lt_of_cell? _ _ V.c2
      obtain ⟨hG, hRd, hNs, hBw⟩ := setup V bl2 (⟨fun i hi => hby.1 i (by omega), hby.2⟩ : Bytes w2 fg dl (df lf ty bz)) hfl (by simp at y2; omega) (cc := cc) (cp := cp) hC fail sMine
      have hnew := new_calls sMine w2
      have hbe := df_be lf ty bz
      have hFR : F.answers ((w2.alloc (.cells #[.string sMine] 42)).alloc (rdObj fg dl cp ca cl cc fail w2.heap.size)).tape := by rw [hBw.tape]; exact hF
      replace hBw : Hid _ := hBw
      clear hdl
      by_cases h5 : dl < 5
      · have k5 : (dl : Int) < 5 := by omega
        cases fail
        · have hfr := frame_eof cp cc lim _ hG hRd hNs h5 (by omega) (by omega)
          clear hbe hlim
          by_cases hd0 : dl = 0
          · rw [show shortE false p1 p2 ⟨w2.heap.size, 0, none⟩ dl = p1 by simp [shortE, hd0]] at hfr
            replace hd0 : ((dl : Int) == 0) = true := by rw [hd0]; rfl
            go_upto_region 14 with (first | (go_at_call 4; refine hnew.mono ?_; rintro e w3 ⟨rfl, rfl⟩) | (go_at_call 5; refine hfr.mono ?_; rintro e w4 ⟨k4, rfl, hR4, hB4⟩))
            obtain ⟨hGW, hpos, hbW⟩ := behind (M := w.heap.size) hG hNs hB4 hR4 cell34 (by omega)
            have hsn := eql_nil23
            have c0 := hGW.c0
            have c1 := hGW.c1
            have c2 := hGW.c2
            have heq := eq_same p1 (w4.alloc cell34)
            clear hG hRd hNs hR4 hB4 hGW hnew hfr hFR
            go_wp2_with fail
            go_ret
            exact ⟨rfl, hBw.out.trans hbW⟩
          · rw [show shortE false p1 p2 ⟨w2.heap.size, 0, none⟩ dl = p2 by simp [shortE, hd0]] at hfr
            replace hd0 : ((dl : Int) == 0) = false := by rw [beq_eq_false_iff_ne]; omega
            go_upto_region 14 with (first | (go_at_call 4; refine hnew.mono ?_; rintro e w3 ⟨rfl, rfl⟩) | (go_at_call 5; refine hfr.mono ?_; rintro e w4 ⟨k4, rfl, hR4, hB4⟩))
            obtain ⟨hGW, hpos, hbW⟩ := behind (M := w.heap.size) hG hNs hB4 hR4 cell34 (by omega)
            have hsn := eql_nil23
            have c0 := hGW.c0
            have c1 := hGW.c1
            have c2 := hGW.c2
            have heq := eq_same p2 (w4.alloc cell34)
            clear hG hRd hNs hR4 hB4 hGW hnew hfr hFR
            go_wp2_with fail
            go_ret
            exact ⟨rfl, hBw.out.trans hbW⟩
        · have hfr := frame_fail F cp cc lim _ hFR hG hRd hNs h5 (by omega) (by omega)
          clear hbe hlim
          go_upto_region 14 with (first | (go_at_call 4; refine hnew.mono ?_; rintro e w3 ⟨rfl, rfl⟩) | (go_at_call 5; refine hfr.mono ?_; rintro e w4 ⟨k4, x, rfl, ⟨bx, hbx, rfl, hxc⟩, hR4, hB4⟩))
          obtain ⟨hGW, hpos, hbW⟩ := behind (M := w.heap.size) hG hNs hB4 hR4 cell34 (by omega)
          have hsn := eql_nil23
          have c0 := hGW.c0
          have c1 := hGW.c1
          have c2 := hGW.c2
          have hxw : (w4.alloc cell34).cell? ⟨bx, 0 + 1, none⟩ = some (.iface 40 (.pointer (some ⟨w2.heap.size, 0, none⟩))) := cell?_alloc_old cell34 hxc
          obtain ⟨qa, qb, hq⟩ := hGW.bm
          obtain ⟨ra, rb, hr⟩ := hGW.b0
          have hoth := other_wrap bx (.iface 40 (.pointer (some ⟨w2.heap.size, 0, none⟩))) p1 p2 (w4.alloc cell34) c1 c2
          have hism := is_wrap_same bx 0 ⟨w2.heap.size, 0, none⟩ (w4.alloc cell34) hxw
          have his0 := is_wrap_other bx 0 p0 ⟨w2.heap.size, 0, none⟩ _ _ _ _ (w4.alloc cell34) hxw hGW.n0m.symm hq hr
          clear hq hr
          clear hG hRd hNs hR4 hB4 hGW hnew hfr hFR
          go_wp2_with (first | (go_at_call 6; with_reducible refine hoth.mono ?_; rintro e w5 ⟨rfl, rfl⟩) | (go_at_call 7; with_reducible refine hism.mono ?_; rintro e w5 ⟨rfl, rfl⟩) | (go_at_call 7; with_reducible refine his0.mono ?_; rintro e w5 ⟨rfl, rfl⟩))
          go_ret
          exact ⟨rfl, hBw.out.trans hbW⟩
      · have k5 : ¬ (dl : Int) < 5 := by omega
        have k6 : IntKind.i64.wrap lf = lf := by rw [IntKind.wrap_i64]; omega
        by_cases hn : lim < lf
        · have hfr := frame_large F cp cc fail lim lf _ hFR hG hRd hNs (by omega) (by omega) (by omega) (by omega) hbe hn
          clear hbe hlim
          go_upto_region 14 with (first | (go_at_call 4; refine hnew.mono ?_; rintro e w3 ⟨rfl, rfl⟩) | (go_at_call 5; refine hfr.mono ?_; rintro e w4 ⟨k4, x, rfl, ⟨bx, hbx, rfl, hxc⟩, hR4, hB4⟩))
          obtain ⟨hGW, hpos, hbW⟩ := behind (M := w.heap.size) hG hNs hB4 hR4 cell34 (by omega)
          have hsn := eql_nil23
          have c0 := hGW.c0
          have c1 := hGW.c1
          have c2 := hGW.c2
          have hxw : (w4.alloc cell34).cell? ⟨bx, 0 + 1, none⟩ = some (.iface 40 (.pointer (some p0))) := cell?_alloc_old cell34 hxc
          obtain ⟨qa, qb, hq⟩ := hGW.bm
          obtain ⟨ra, rb, hr⟩ := hGW.b0
          have hoth := other_wrap bx (.iface 40 (.pointer (some ⟨w2.heap.size, 0, none⟩))) p1 p2 (w4.alloc cell34) c1 c2
          have his0 := is_wrap_same bx 0 p0 (w4.alloc cell34) hxw
          have hism := is_wrap_other bx 0 ⟨w2.heap.size, 0, none⟩ p0 _ _ _ _ (w4.alloc cell34) hxw hGW.n0m hr hq
          clear hq hr
          clear hG hRd hNs hR4 hB4 hGW hnew hfr hFR
          go_wp2_with (first | (go_at_call 6; with_reducible refine hoth.mono ?_; rintro e w5 ⟨rfl, rfl⟩) | (go_at_call 7; with_reducible refine hism.mono ?_; rintro e w5 ⟨rfl, rfl⟩) | (go_at_call 7; with_reducible refine his0.mono ?_; rintro e w5 ⟨rfl, rfl⟩))
          go_ret
          exact ⟨rfl, hBw.out.trans hbW⟩
        · have hlim2 : lim ≤ 1048576 := by omega
          obtain ⟨n, hnn⟩ : ∃ n : Nat, lf = (n : Int) := ⟨lf.toNat, by omega⟩
          by_cases hav : dl < 5 + n
          · have hav2 : (dl : Int) - 5 < lf := by omega
            cases fail
            · have hfr := frame_cut_eof cp cc lim n _ hG hRd hNs (by omega) (by omega) (by omega) (by omega) (hbe.trans hnn) (by omega) hlim2 hav
              clear hbe hlim hnn hav
              go_upto_region 14 with (first | (go_at_call 4; refine hnew.mono ?_; rintro e w3 ⟨rfl, rfl⟩) | (go_at_call 5; refine hfr.mono ?_; rintro e w4 ⟨k4, rfl, hR4, hB4⟩))
              obtain ⟨hGW, hpos, hbW⟩ := behind (M := w.heap.size) hG hNs hB4 hR4 cell34 (by omega)
              have hsn := eql_nil23
              have c0 := hGW.c0
              have c1 := hGW.c1
              have c2 := hGW.c2
              have heq := eq_same p2 (w4.alloc cell34)
              clear hG hRd hNs hR4 hB4 hGW hnew hfr hFR
              go_wp2_with fail
              go_ret
              exact ⟨rfl, hBw.out.trans hbW⟩
            · have hfr := frame_cut_fail F cp cc lim n _ hFR hG hRd hNs (by omega) (by omega) (by omega) (by omega) (hbe.trans hnn) (by omega) hlim2 hav
              clear hbe hlim hnn hav
              go_upto_region 14 with (first | (go_at_call 4; refine hnew.mono ?_; rintro e w3 ⟨rfl, rfl⟩) | (go_at_call 5; refine hfr.mono ?_; rintro e w4 ⟨k4, x, rfl, ⟨bx, hbx, rfl, hxc⟩, hR4, hB4⟩))
              obtain ⟨hGW, hpos, hbW⟩ := behind (M := w.heap.size) hG hNs hB4 hR4 cell34 (by omega)
              have hsn := eql_nil23
              have c0 := hGW.c0
              have c1 := hGW.c1
              have c2 := hGW.c2
              have hxw : (w4.alloc cell34).cell? ⟨bx, 0 + 1, none⟩ = some (.iface 40 (.pointer (some ⟨w2.heap.size, 0, none⟩))) := cell?_alloc_old cell34 hxc
              obtain ⟨qa, qb, hq⟩ := hGW.bm
              obtain ⟨ra, rb, hr⟩ := hGW.b0
              have hoth := other_wrap bx (.iface 40 (.pointer (some ⟨w2.heap.size, 0, none⟩))) p1 p2 (w4.alloc cell34) c1 c2
              have hism := is_wrap_same bx 0 ⟨w2.heap.size, 0, none⟩ (w4.alloc cell34) hxw
              have his0 := is_wrap_other bx 0 p0 ⟨w2.heap.size, 0, none⟩ _ _ _ _ (w4.alloc cell34) hxw hGW.n0m.symm hq hr
              clear hq hr
              clear hG hRd hNs hR4 hB4 hGW hnew hfr hFR
              go_wp2_with (first | (go_at_call 6; with_reducible refine hoth.mono ?_; rintro e w5 ⟨rfl, rfl⟩) | (go_at_call 7; with_reducible refine hism.mono ?_; rintro e w5 ⟨rfl, rfl⟩) | (go_at_call 7; with_reducible refine his0.mono ?_; rintro e w5 ⟨rfl, rfl⟩))
              go_ret
              exact ⟨rfl, hBw.out.trans hbW⟩
          · have hav2 : ¬ (dl : Int) - 5 < lf := by omega
            have hfr := frame_ok cp cc fail lim n _ hG hRd hNs (by omega) (by omega) (by omega) (by omega) (hbe.trans hnn) (by omega) hlim2 (by omega)
            rw [df_ty] at hfr
            replace hnn : Hid _ := hnn
            clear hbe hlim hav
            go_upto_region 14 with (first | (go_at_call 4; refine hnew.mono ?_; rintro e w3 ⟨rfl, rfl⟩) | (go_at_call 5; refine hfr.mono ?_; rintro e w4 ⟨k4, yb, hyb, rfl, hy4, hR4, hB4⟩))
            obtain ⟨hGW, hpos0, hbW⟩ := behind (M := w.heap.size) hG hNs hB4 hR4 (cellF ty yb n) (by omega)
            have hpos : (w4.alloc (cellF ty yb n)).cell? ⟨w2.heap.size + 1, 1, none⟩ = some (.int .i64 (5 + lf)) := by rw [hpos0, hnn.out]; rfl
            have hsn := eql_nil23
            have c0 := hGW.c0
            have c1 := hGW.c1
            have c2 := hGW.c2
            have hEq : ∀ q o, (o = 5 ∨ n = 0) → Calls Ybaf.prog 8 #[.slice (some ⟨yb, 0, none⟩) n n, .slice (some ⟨fg, o, none⟩) n (cp - 5)] ((w4.alloc (cellF ty yb n)).drewN q) fun e w5 => e = .returned (.bool true) ∧ w5 = (w4.alloc (cellF ty yb n)).drewN q := fun q o ho => equal_same yb 0 n fg o (cp - 5) n (df lf ty bz) 5 _ (fun i hi => by rw [Nat.zero_add]; exact cell?_alloc_old _ ((cell_of_row hy4 i).trans (vals_at _ _ _ _ hi))) (fun i hi => by rcases ho with rfl | rfl; (· exact hGW.data.1 (5 + i) (by have := hnn.out; omega)); (· omega))
            have g1 : (5 : Int) ≤ 5 + lf := by omega
            have g2 : (5 : Int) + lf ≤ (cp : Int) := by have := hnn.out; omega
            have g3 : (5 + lf).toNat = 5 + n := by have := hnn.out; omega
            have g4 : 5 + n - 5 = n := by omega
            have g6 : IntKind.i64.wrap (5 + lf) = 5 + lf := by rw [IntKind.wrap_i64]; omega
            clear hG hRd hNs hR4 hB4 hGW hnew hfr
            clear hFR hpos0
            by_cases g5 : cp = 5
            · obtain rfl : n = 0 := by have := hnn.out; omega
              obtain rfl : lf = 0 := hnn.out
              obtain rfl : dl = 5 := by omega
              subst g5
              clear g1 g2 g3 g4 g6 k6 k5 h5 hav2
              cases hty : (ty == (0 : Int))
              all_goals
                go_wp2_with fail
                go_quiet (first | (go_at_call 8; refine Calls.quiet_of_same (hEq _ _ (by simp))))
                go_wp2_with fail
                go_ret
                exact ⟨rfl, below_drewN (hBw.out.trans hbW) _⟩
            · cases hty : (ty == (0 : Int))
              all_goals
                go_wp2_with fail
                go_quiet (first | (go_at_call 8; refine Calls.quiet_of_same (hEq _ _ (.inl rfl))))
                go_wp2_with fail
                go_ret
                exact ⟨rfl, below_drewN (hBw.out.trans hbW) _⟩
end Go.Proofs.YbulkdkcwFmt
