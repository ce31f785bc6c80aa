import Derived.Test.YbulkdkcwFmtHead2
import Derived.Handy
namespace Go.Proofs.YbulkdkcwFmt
open Go.RowKit Go.Stop
attribute [local go_sem ↓] Go.wp_at_zero Go.wp_at_succ

theorem frozen_of_row {w : World} {g : Nat} {cs : Array Value} {t : TypeId} (h : w.heap[g]? = some (.cells cs t (0, 0))) (i : Nat) : w.frozen? ⟨g, i, none⟩ = false := by
  simp [World.frozen?, h]
theorem Rd.setCell {w : World} {rb db dl dc pos k : Nat} {ca : Option Addr} {cl cc : Nat} {fail : Bool} {pm : Addr} (h : Rd w rb db dl dc pos k ca cl cc fail pm) (p : Addr) (hp : rb ≠ p.block) (v : Value) : Rd (w.setCell p v) rb db dl dc pos k ca cl cc fail pm :=
  h.keep (Below.heap_setCell w p v rb hp)
/-- The zero Frame. -/
abbrev frame0 : Value := .agg #[.int .u8 0, .slice none 0 0]
/-- The block of ReadFrame's result, as it is laid. -/
abbrev cell34 : Obj := .cells #[.int .u8 0, .slice none 0 0] 34

set_option maxHeartbeats 4000000 in
set_option maxRecDepth 100000 in
/-- ReadFrame where readHeader fails. -/
theorem frame_head {N : Nat} {pm : Addr} {db dl : Nat} {ca : Option Addr} {cl : Nat} (dc cc pos : Nat) (fail : Bool) (lim : Int) (w : World) (R : TypeId → Value → World → Prop) (hN : N < w.heap.size)
    (h : Calls Ybaf.prog 9 #[.iface 29 (.pointer (some ⟨N, 0, none⟩)), .int .i64 lim] (w.alloc cell34) fun e w' => ∃ k' tx vx, e = .returned (.tuple #[.int .u8 0, .int .i64 0, .iface tx vx]) ∧ R tx vx w' ∧
      Rd w' N db dl dc pos k' ca cl cc fail pm ∧ But N (w.alloc cell34) w') :
    Calls Ybaf.prog 5 #[.iface 29 (.pointer (some ⟨N, 0, none⟩)), .int .i64 lim] w fun e w' => ∃ k' tx vx w0, e = .returned (.tuple #[frame0, .iface tx vx]) ∧ R tx vx w0 ∧ w' = (w0.setCell ⟨w.heap.size, 0, none⟩ (.int .u8 0)).setCell ⟨w.heap.size, 1, none⟩ (.slice none 0 0) ∧
      Rd w' N db dl dc pos k' ca cl cc fail pm ∧ But N w w' := by
  go_enter Ybaf.func5, Ybaf.ntmps5
  go_wp2_with (go_at_call 9; refine h.mono ?_; rintro e w' ⟨k', tx, vx, rfl, hRR, hR, hB⟩; have hz := hB.size; have e1 := hB.block w.heap.size (by simp) (by omega); rw [heap_new] at e1; have e2 : w'.cell? ⟨w.heap.size, 0, none⟩ = some (.int .u8 0) := (cell_of_row e1 0).trans rfl; have e3 : w'.cell? ⟨w.heap.size, 1, none⟩ = some (.slice none 0 0) := (cell_of_row e1 1).trans rfl; have e4 := frozen_of_row e1 0; have e5 := frozen_of_row e1 1)
  refine bodyPost_ret (v := .tuple #[frame0, .iface tx vx]) (by simp [results, Ybaf.results5, go_sem, e2, e3]; try rfl) rfl ?_
  refine ⟨k', tx, vx, w', rfl, hRR, rfl, (hR.setCell _ (by simp; omega) _).setCell _ (by simp; omega) _, ?_⟩
  exact (((But.refl N w).alloc _).trans hB).setCell _ (Nat.le_refl _) _ |>.setCell _ (Nat.le_refl _) _

/-- A block of n zero bytes. -/
def row0 (n : Nat) : Obj := .cells (List.replicate n (B8 0)).toArray 5 (0, 0)
theorem info5all : (Ybaf.prog.info? 5).map (fun i => (i.zero, i.size, i.bytes)) = some (some (.int .u8 0), 1, 1) := by kernel_rfl
theorem make_run (n : Nat) (hn : n ≤ 2000000) (w : World) : (Instr.makeSlice 23 (.int .i64 (n : Int)) (.int .i64 (n : Int))).run Ybaf.prog w = .ok (.slice (some ⟨w.heap.size, 0, none⟩) n n) (w.alloc (row0 n)) := by
  obtain ⟨i, hi, he⟩ := Option.map_eq_some_iff.1 info5all
  simp only [Prod.mk.injEq] at he
  obtain ⟨h1, h2, h3⟩ := he
  have h := run_make (P := Ybaf.prog) w 23 5 i _ Ybaf.underlying23 hi h1 .i64 .i64 (n : Int) (n : Int) (by omega) (by omega) (by rw [h3]; omega) (by omega)
  rw [h, h2]
  have e : madeCells (Value.int .u8 0).cells n = (List.replicate n (B8 0)).toArray := by
    apply Array.ext'
    exact toList_madeCells_one _ _
  simp only [Int.toNat_natCast, Nat.mul_one, e]
  rfl

/-- The frame in hand, as it is laid. -/
abbrev cellF (t : Int) (y n : Nat) : Obj := .cells #[.int .u8 t, .slice (some ⟨y, 0, none⟩) n n] 34
/-- ReadFull of the payload, in ReadFrame's own world. -/
theorem frame_full {N : Nat} {p0 p1 p2 pm : Addr} {db dl : Nat} {D : Nat → Int} {ca : Option Addr} {cl : Nat} {cz : Nat → Int} (dc cc k : Nat) (fail : Bool) (t : Int) (n : Nat) (w : World)
    (G : Gl N p0 p1 p2 pm db dl D ca cl cz w) (hR : Rd w N db dl dc 5 k ca cl cc fail pm) (hk : k ≤ 5) (hN : N < w.heap.size) (hdl : 5 ≤ dl) (hd2 : dl ≤ 1073741824) (hdc : dl ≤ dc) (hcl2 : cl ≤ 1073741824) (hn : n ≤ 2000000) :
    Calls Ybaf.prog 10 #[.iface 29 (.pointer (some ⟨N, 0, none⟩)), .slice (some ⟨w.heap.size, 0, none⟩) n n] ((w.alloc (row0 n)).alloc (cellF t w.heap.size n)) fun e w' => ∃ q k' : Nat, q = min n (dl - 5) ∧
      e = .returned (.tuple #[.int .i64 (q : Int), fullE fail p1 p2 pm q n]) ∧ Rd w' N db dl dc (5 + q) k' ca cl cc fail pm ∧ w'.heap[w.heap.size]? = some (.cells (splice (List.replicate n (B8 0)) 0 (vals D 5 q)).toArray 5 (0, 0)) ∧
      w'.heap[w.heap.size + 1]? = some (cellF t w.heap.size n) ∧ Gl N p0 p1 p2 pm db dl D ca cl cz w' ∧ But N w w' ∧ w'.heap.size = w.heap.size + 2 := by
  have hb : Below w.heap.size w ((w.alloc (row0 n)).alloc (cellF t w.heap.size n)) := ((Below.refl w.heap.size w).alloc (Nat.le_refl _) _).alloc (by simp) _
  have G1 := G.below hb (Nat.le_of_lt hN)
  refine (full_any dc 5 k cc fail w.heap.size n (List.replicate n (B8 0)) 5 _ G1 (hR.keep (hb.block _ hN)) hN hd2 hdc hdl hn hk hcl2 ((Below.heap_alloc _ _ _ (by simp)).trans (heap_new w (row0 n))) (by simp)).mono ?_
  rintro e w' ⟨q, k', hq, hk', rfl, hR2, hc2, hO⟩
  refine ⟨q, k', hq, rfl, hR2, hc2, ?_, G1.only hO hN, ?_, ?_⟩
  · refine (hO.block _ (by omega) (by omega)).trans ?_
    have := heap_new (w.alloc (row0 n)) (cellF t w.heap.size n)
    rw [show (w.alloc (row0 n)).heap.size = w.heap.size + 1 from by simp] at this
    exact this
  · exact ⟨hO.os, hO.tape, hO.output, by rw [hO.size]; simp; omega, fun k hk hn => (hO.block k hn (by omega)).trans (hb.block k hk)⟩
  · rw [hO.size]; simp

set_option maxHeartbeats 4000000 in
set_option maxRecDepth 100000 in
/-- ReadFrame, the frame there whole. -/
theorem frame_ok {N : Nat} {p0 p1 p2 pm : Addr} {db dl : Nat} {D : Nat → Int} {ca : Option Addr} {cl : Nat} {cz : Nat → Int} (dc cc : Nat) (fail : Bool) (lim : Int) (n : Nat) (w : World)
    (G : Gl N p0 p1 p2 pm db dl D ca cl cz w) (hR : Rd w N db dl dc 0 0 ca cl cc fail pm) (hN : N < w.heap.size) (hdl : 5 ≤ dl) (hd2 : dl ≤ 1073741824) (hdc : dl ≤ dc) (hcl2 : cl ≤ 1073741824)
    (hn : be32 (D 0) (D 1) (D 2) (D 3) = (n : Int)) (hl : (n : Int) ≤ lim) (hlim : lim ≤ 1048576) (hav : 5 + n ≤ dl) :
    Calls Ybaf.prog 5 #[.iface 29 (.pointer (some ⟨N, 0, none⟩)), .int .i64 lim] w fun e w' => ∃ k' yb, N < yb ∧ e = .returned (.tuple #[.agg #[.int .u8 (D 4), .slice (some ⟨yb, 0, none⟩) n n], .nilIface]) ∧
      w'.heap[yb]? = some (.cells (vals D 5 n).toArray 5 (0, 0)) ∧ Rd w' N db dl dc (5 + n) k' ca cl cc fail pm ∧ But N w w' := by
  have hz0 : N < (w.alloc cell34).heap.size := by simp; omega
  have hhead := head_ok dc cc fail lim (n : Int) (w.alloc cell34) (G.below ((Below.refl w.heap.size w).alloc (Nat.le_refl _) _) (by omega)) (hR.keep (Below.heap_alloc _ _ _ hN)) hz0 hdl hd2 hdc hcl2 hn hl
  have hmk := fun w => make_run n (by omega) w
  go_enter Ybaf.func5, Ybaf.ntmps5
  go_wp2_with (go_at_call 9; refine hhead.mono ?_; rintro e w' ⟨k', hk', rfl, hR1, hB⟩; have hz := hB.size; have e1 := hB.block w.heap.size (by simp) (by omega); rw [heap_new] at e1; replace hn : Hid _ := hn; have hG1 := G.below (((But.refl N w).alloc cell34).trans hB |>.below (by omega)) (Nat.le_refl _); have hz1 : w.heap.size < w'.heap.size := (by simp at hz; omega); have hfull := frame_full dc cc k' fail (D 4) n w' hG1 hR1 hk' (by omega) hdl hd2 hdc hcl2 (by omega); clear hz hhead hz0)
  go_wp2_with (go_at_call 10; refine hfull.mono ?_; rintro e w2 ⟨q, k2, hq, rfl, hR2, hy, hc, hG2, hB2, hz2⟩; obtain rfl : q = n := (by omega); rw [fullE_full]; have e2 := cell_of_row hc 0; have e3 := cell_of_row hc 1; have e6 := (hB2.block w.heap.size hz1 (by omega)).trans e1; have e7 : w2.cell? ⟨w.heap.size, 0, none⟩ = some (.int .u8 0) := (cell_of_row e6 0).trans rfl; have e8 : w2.cell? ⟨w.heap.size, 1, none⟩ = some (.slice none 0 0) := (cell_of_row e6 1).trans rfl; have e4 := frozen_of_row e6 0; have e5 := frozen_of_row e6 1; clear hq hz2)
  refine bodyPost_ret (v := .tuple #[.agg #[.int .u8 (D 4), .slice (some ⟨w'.heap.size, 0, none⟩) q q], .nilIface]) (by simp [results, Ybaf.results5, go_sem, e7, e8]; try rfl) rfl ?_
  have hy' : w2.heap[w'.heap.size]? = some (.cells (vals D 5 q).toArray 5 (0, 0)) := by
    have := splice_all D (List.replicate q (B8 0)) 5
    rw [List.length_replicate] at this
    rw [hy, this]
  have hsz := hB2.size
  refine ⟨k2, w'.heap.size, by omega, rfl, ?_, (hR2.setCell _ (by simp; omega) _).setCell _ (by simp; omega) _, ?_⟩
  · exact ((Below.heap_setCell _ _ _ _ (by simp; omega)).trans (Below.heap_setCell _ _ _ _ (by simp; omega))).trans hy'
  · exact ((((But.refl N w).alloc _).trans hB).trans hB2).setCell _ (Nat.le_refl _) _ |>.setCell _ (Nat.le_refl _) _

set_option maxHeartbeats 4000000 in
set_option maxRecDepth 100000 in
/-- ReadFrame, the payload cut off. -/
theorem frame_cut_eof {N : Nat} {p0 p1 p2 pm : Addr} {db dl : Nat} {D : Nat → Int} {ca : Option Addr} {cl : Nat} {cz : Nat → Int} (dc cc : Nat) (lim : Int) (n : Nat) (w : World)
    (G : Gl N p0 p1 p2 pm db dl D ca cl cz w) (hR : Rd w N db dl dc 0 0 ca cl cc false pm) (hN : N < w.heap.size) (hdl : 5 ≤ dl) (hd2 : dl ≤ 1073741824) (hdc : dl ≤ dc) (hcl2 : cl ≤ 1073741824)
    (hn : be32 (D 0) (D 1) (D 2) (D 3) = (n : Int)) (hl : (n : Int) ≤ lim) (hlim : lim ≤ 1048576) (hav : dl < 5 + n) :
    Calls Ybaf.prog 5 #[.iface 29 (.pointer (some ⟨N, 0, none⟩)), .int .i64 lim] w fun e w' => ∃ k', e = .returned (.tuple #[frame0, .iface 40 (.pointer (some p2))]) ∧ Rd w' N db dl dc dl k' ca cl cc false pm ∧ But N w w' := by
  have hz0 : N < (w.alloc cell34).heap.size := by simp; omega
  have hhead := head_ok dc cc false lim (n : Int) (w.alloc cell34) (G.below ((Below.refl w.heap.size w).alloc (Nat.le_refl _) _) (by omega)) (hR.keep (Below.heap_alloc _ _ _ hN)) hz0 hdl hd2 hdc hcl2 hn hl
  have hmk := fun w => make_run n (by omega) w
  go_enter Ybaf.func5, Ybaf.ntmps5
  go_wp2_with (go_at_call 9; refine hhead.mono ?_; rintro e w' ⟨k', hk', rfl, hR1, hB⟩; have hz := hB.size; have e1 := hB.block w.heap.size (by simp) (by omega); rw [heap_new] at e1; replace hn : Hid _ := hn; have hG1 := G.below (((But.refl N w).alloc cell34).trans hB |>.below (by omega)) (Nat.le_refl _); have hz1 : w.heap.size < w'.heap.size := (by simp at hz; omega); have hfull := frame_full dc cc k' false (D 4) n w' hG1 hR1 hk' (by omega) hdl hd2 hdc hcl2 (by omega); clear hz hhead hz0)
  go_wp2_with (first
    | (go_at_call 10; refine hfull.mono ?_; rintro e w2 ⟨q, k2, hq, rfl, hR2, hy, hc, hG2, hB2, hz2⟩; rw [fullE_short _ _ _ _ _ _ (show q < n by omega)]; have hpay := pay_eof (D 4) p1 p2 w2 hG2.c1 hG2.c2 hG2.n12 hG2.b1 hG2.b2 _ (short_cases p1 p2 pm q); have e6 := (hB2.block w.heap.size hz1 (by omega)).trans e1; have e7 : w2.cell? ⟨w.heap.size, 0, none⟩ = some (.int .u8 0) := (cell_of_row e6 0).trans rfl; have e8 : w2.cell? ⟨w.heap.size, 1, none⟩ = some (.slice none 0 0) := (cell_of_row e6 1).trans rfl; have e4 := frozen_of_row e6 0; have e5 := frozen_of_row e6 1; have hq5 : 5 + q = dl := (by omega); rw [hq5] at hR2; clear hy hc hq hq5 hz2)
    | (go_at_call 11; refine hpay.mono ?_; rintro e w3 ⟨rfl, rfl⟩))
  refine bodyPost_ret (v := .tuple #[frame0, .iface 40 (.pointer (some p2))]) (by simp [results, Ybaf.results5, go_sem, e7, e8]; try rfl) rfl ?_
  refine ⟨k2, rfl, (hR2.setCell _ (by simp; omega) _).setCell _ (by simp; omega) _, ?_⟩
  exact ((((But.refl N w).alloc _).trans hB).trans hB2).setCell _ (Nat.le_refl _) _ |>.setCell _ (Nat.le_refl _) _

set_option maxHeartbeats 4000000 in
set_option maxRecDepth 100000 in
/-- ReadFrame, the payload cut off. -/
theorem frame_cut_fail (F : Interp) {N : Nat} {p0 p1 p2 pm : Addr} {db dl : Nat} {D : Nat → Int} {ca : Option Addr} {cl : Nat} {cz : Nat → Int} (dc cc : Nat) (lim : Int) (n : Nat) (w : World) (hF : F.answers w.tape)
    (G : Gl N p0 p1 p2 pm db dl D ca cl cz w) (hR : Rd w N db dl dc 0 0 ca cl cc true pm) (hN : N < w.heap.size) (hdl : 5 ≤ dl) (hd2 : dl ≤ 1073741824) (hdc : dl ≤ dc) (hcl2 : cl ≤ 1073741824)
    (hn : be32 (D 0) (D 1) (D 2) (D 3) = (n : Int)) (hl : (n : Int) ≤ lim) (hlim : lim ≤ 1048576) (hav : dl < 5 + n) :
    Calls Ybaf.prog 5 #[.iface 29 (.pointer (some ⟨N, 0, none⟩)), .int .i64 lim] w fun e w' => ∃ k' x, e = .returned (.tuple #[frame0, x]) ∧ Wraps w.heap.size w' pm x ∧ Rd w' N db dl dc dl k' ca cl cc true pm ∧ But N w w' := by
  have hz0 : N < (w.alloc cell34).heap.size := by simp; omega
  have hhead := head_ok dc cc true lim (n : Int) (w.alloc cell34) (G.below ((Below.refl w.heap.size w).alloc (Nat.le_refl _) _) (by omega)) (hR.keep (Below.heap_alloc _ _ _ hN)) hz0 hdl hd2 hdc hcl2 hn hl
  have hmk := fun w => make_run n (by omega) w
  go_enter Ybaf.func5, Ybaf.ntmps5
  go_wp2_with (go_at_call 9; refine hhead.mono ?_; rintro e w' ⟨k', hk', rfl, hR1, hB⟩; have hz := hB.size; have e1 := hB.block w.heap.size (by simp) (by omega); rw [heap_new] at e1; replace hn : Hid _ := hn; have hG1 := G.below (((But.refl N w).alloc cell34).trans hB |>.below (by omega)) (Nat.le_refl _); have hz1 : w.heap.size < w'.heap.size := (by simp at hz; omega); have hfull := frame_full dc cc k' true (D 4) n w' hG1 hR1 hk' (by omega) hdl hd2 hdc hcl2 (by omega); clear hz hhead hz0)
  go_wp2_with (first
    | (go_at_call 10; refine hfull.mono ?_; rintro e w2 ⟨q, k2, hq, rfl, hR2, hy, hc, hG2, hB2, hz2⟩; rw [fullE_short _ _ _ _ _ _ (show q < n by omega), show shortE true p1 p2 pm q = pm from rfl]; have hpay := pay_mine F (D 4) p1 p2 pm w2 (by rw [hB2.tape, hB.tape]; exact hF) hG2.c1 hG2.c2 hG2.n1m hG2.n2m hG2.b1 hG2.b2 hG2.bm hG2.sm; have hz3 : w.heap.size < w2.heap.size := (by omega); have e6 := (hB2.block w.heap.size hz1 (by omega)).trans e1; have e7 : w2.cell? ⟨w.heap.size, 0, none⟩ = some (.int .u8 0) := (cell_of_row e6 0).trans rfl; have e8 : w2.cell? ⟨w.heap.size, 1, none⟩ = some (.slice none 0 0) := (cell_of_row e6 1).trans rfl; have e4 := frozen_of_row e6 0; have e5 := frozen_of_row e6 1; have hq5 : 5 + q = dl := (by omega); rw [hq5] at hR2; clear hy hc hq hq5 hz2)
    | (go_at_call 11; refine hpay.mono ?_; rintro e w3 ⟨x, rfl, ⟨bx, hbx, rfl, hxc⟩, hb3⟩; have f7 := (hb3.cell (p := ⟨w.heap.size, 0, none⟩) hz3).trans e7; have f8 := (hb3.cell (p := ⟨w.heap.size, 1, none⟩) hz3).trans e8; have f4 := (hb3.frozen (p := ⟨w.heap.size, 0, none⟩) hz3).trans e4; have f5 := (hb3.frozen (p := ⟨w.heap.size, 1, none⟩) hz3).trans e5))
  refine bodyPost_ret (v := .tuple #[frame0, .iface 74 (.pointer (some ⟨bx, 0, none⟩))]) (by simp [results, Ybaf.results5, go_sem, f7, f8]; try rfl) rfl ?_
  refine ⟨k2, _, rfl, ⟨bx, by omega, rfl, ?_⟩, ((hR2.keep (hb3.block _ (by omega))).setCell _ (by simp; omega) _).setCell _ (by simp; omega) _, ?_⟩
  · refine ((World.cell?_of_block (Below.heap_setCell _ _ _ _ ?_)).trans (World.cell?_of_block (Below.heap_setCell _ _ _ _ ?_))).trans hxc
    all_goals (simp; omega)
  · exact (((((But.refl N w).alloc _).trans hB).trans hB2).trans (.ofBelow hb3)).setCell _ (Nat.le_refl _) _ |>.setCell _ (Nat.le_refl _) _
end Go.Proofs.YbulkdkcwFmt
