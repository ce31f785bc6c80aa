import Derived.Test.YbulkdkcwFmtHead
namespace Go.Proofs.YbulkdkcwFmt
open Go.RowKit Go.Stop
attribute [local go_sem ↓] Go.wp_at_zero Go.wp_at_succ

theorem Wraps.made' (M : Nat) (w : World) (p : Addr) (x : ByteArray) (b : Nat) (hb : b = w.heap.size) (h : M ≤ b) : Wraps M (w.alloc (.cells #[.string x, .iface 40 (.pointer (some p))] 102)).drew p (.iface 74 (.pointer (some ⟨b, 0, none⟩))) := by
  subst hb; exact Wraps.made M w p x h

set_option maxHeartbeats 4000000 in
set_option maxRecDepth 100000 in
/-- readHeader, the stream too short, the reader's own failure. -/
theorem head_fail (F : Interp) {N : Nat} {p0 p1 p2 pm : Addr} {db dl : Nat} {D : Nat → Int} {ca : Option Addr} {cl : Nat} {cz : Nat → Int} (dc cc : Nat) (lim : Int) (w : World) (hF : F.answers w.tape)
    (G : Gl N p0 p1 p2 pm db dl D ca cl cz w) (hR : Rd w N db dl dc 0 0 ca cl cc true pm) (hN : N < w.heap.size) (hdl : dl < 5) (hdc : dl ≤ dc) (hcl2 : cl ≤ 1073741824) :
    Calls Ybaf.prog 9 #[.iface 29 (.pointer (some ⟨N, 0, none⟩)), .int .i64 lim] w fun e w' => ∃ k' x, e = .returned (.tuple #[.int .u8 0, .int .i64 0, x]) ∧ Wraps w.heap.size w' pm x ∧
      Rd w' N db dl dc dl k' ca cl cc true pm ∧ But N w w' := by
  have hfull := head_full dc cc true w G hR hN (by omega) hdc hcl2
  go_enter Ybaf.func9, Ybaf.ntmps9
  go_wp2_with (first
    | (go_at_call 10; refine hfull.mono ?_; rintro e w' ⟨q, k', hq, hk', rfl, hR2, hc2, hG2, hB2, hz2⟩; obtain rfl : q = dl := (by omega); rw [fullE_short _ _ _ _ _ _ hdl, show shortE true p1 p2 pm q = pm from rfl]; have d1 := hG2.c1; have d2 := hG2.c2; have h1 := eq_other w' hG2.n1m.symm hG2.bm hG2.b1; have h2 := eq_other w' hG2.n2m.symm hG2.bm hG2.b2; obtain ⟨sx, hsx⟩ := hG2.sm; have hE := errorf_head F w'.heap.size pm sx (w'.alloc (.cells #[.iface 40 (.pointer (some pm))] 20)) (by rw [show (w'.alloc (.cells #[.iface 40 (.pointer (some pm))] 20)).tape = w.tape from hB2.tape]; exact hF) ((World.cell?_alloc_new w' _ _ _).trans rfl) (cell?_alloc_old _ hsx); have hz3 : N + 1 < w'.heap.size := (by omega); have hz6 := hB2.size; clear hq hc2 hsx hz2)
    | (go_at_call 14; refine hE.mono ?_; rintro e w3 ⟨x, rfl, rfl⟩))
  go_ret3
  refine ⟨k', _, rfl, Wraps.made' w.heap.size (w'.alloc (.cells #[.iface 40 (.pointer (some pm))] 20)) pm x (w'.heap.size + 1) (by simp) (by omega), ?_, ?_⟩
  · exact (hR2.keep (Below.heap_alloc _ (.cells #[.iface 40 (.pointer (some pm))] 20) _ (by omega))).keep (Below.heap_alloc (w'.alloc (.cells #[.iface 40 (.pointer (some pm))] 20)) (.cells #[.string x, .iface 40 (.pointer (some pm))] 102) _ (by simp; omega))
  · exact ((hB2.alloc _).alloc _).drew

/-- The header's bytes at block g. -/
def Hdr (D : Nat → Int) (g : Nat) (w : World) : Prop := ∀ i, i < 5 → w.cell? ⟨g, i, none⟩ = some (B8 (D i))
theorem Hdr.of {D : Nat → Int} {g : Nat} {w : World} (h : w.heap[g]? = some (.cells (splice zero5 0 (vals D 0 5)).toArray 55 (0, 0))) : Hdr D g w := fun i hi => by
  rw [cell_of_row h, show splice zero5 0 (vals D 0 5) = vals D 0 5 from splice_all D zero5 0]
  have := vals_at D 0 5 i hi
  rw [Nat.zero_add] at this
  exact this
theorem Hdr.drewN {D : Nat → Int} {g : Nat} {w : World} (h : Hdr D g w) (n : Nat) : Hdr D g (w.drewN n) := h
theorem Hdr.drew {D : Nat → Int} {g : Nat} {w : World} (h : Hdr D g w) : Hdr D g w.drew := h
theorem Hdr.alloc {D : Nat → Int} {g : Nat} {w : World} (h : Hdr D g w) (o : Obj) : Hdr D g (w.alloc o) := fun i hi => cell?_alloc_old o (h i hi)
theorem Hdr.u32 {D : Nat → Int} {g : Nat} {w : World} (h : Hdr D g w) (hD : ∀ i, 0 ≤ D i ∧ D i < 256) (n c : Nat) (hn : 4 ≤ n) :
    Calls Ybaf.prog 15 #[.agg #[], .slice (some ⟨g, 0, none⟩) n c] w fun e w' => e = .returned (.int .u32 (be32 (D 0) (D 1) (D 2) (D 3))) ∧ ∃ q, w' = (w.alloc (.cells #[] 58)).drewN q :=
  u32_calls g 0 n c _ _ _ _ w hn (hD 0).1 (hD 0).2 (hD 1).1 (hD 1).2 (hD 2).1 (hD 2).2 (hD 3).1 (hD 3).2 (h 0 (by omega)) (h 1 (by omega)) (h 2 (by omega)) (h 3 (by omega))

set_option maxHeartbeats 4000000 in
set_option maxRecDepth 100000 in
/-- readHeader, the header there, the length within the limit. -/
theorem head_ok {N : Nat} {p0 p1 p2 pm : Addr} {db dl : Nat} {D : Nat → Int} {ca : Option Addr} {cl : Nat} {cz : Nat → Int} (dc cc : Nat) (fail : Bool) (lim n : Int) (w : World)
    (G : Gl N p0 p1 p2 pm db dl D ca cl cz w) (hR : Rd w N db dl dc 0 0 ca cl cc fail pm) (hN : N < w.heap.size) (hdl : 5 ≤ dl) (hd2 : dl ≤ 1073741824) (hdc : dl ≤ dc) (hcl2 : cl ≤ 1073741824)
    (hn : be32 (D 0) (D 1) (D 2) (D 3) = n) (hl : n ≤ lim) :
    Calls Ybaf.prog 9 #[.iface 29 (.pointer (some ⟨N, 0, none⟩)), .int .i64 lim] w fun e w' => ∃ k', k' ≤ 5 ∧ e = .returned (.tuple #[.int .u8 (D 4), .int .i64 n, .nilIface]) ∧
      Rd w' N db dl dc 5 k' ca cl cc fail pm ∧ But N w w' := by
  have hfull := head_full dc cc fail w G hR hN (by omega) hdc hcl2
  have hb := G.data.2
  have hn0 : 0 ≤ n ∧ n < 4294967296 := by
    have := hb 0; have := hb 1; have := hb 2; have := hb 3
    unfold be32 at hn; omega
  have hwr : IntKind.i64.wrap n = n := by rw [IntKind.wrap_i64]; omega
  have hcheck := fun w => check_ok (D 4) n lim w hl
  replace hn : Hid _ := hn
  go_enter Ybaf.func9, Ybaf.ntmps9
  go_wp2_with (go_at_call 10; refine hfull.mono ?_; rintro e w' ⟨q, k', hq, hk', rfl, hR2, hc2, hG2, hB2, hz2⟩; obtain rfl : q = 5 := (by omega); rw [fullE_full]; have d1 := hG2.c1; have d2 := hG2.c2; have h1 := nil_left p1 w'; have h2 := nil_left p2 w'; have hH := Hdr.of hc2; have h4 := hH 4 (by omega); have hz3 : N + 1 < w'.heap.size := (by omega); have hz6 := hB2.size; clear hq hc2 hz2)
  go_region_held3 (fun w1 => Hdr D w.heap.size w1) (with_reducible (repeat (first | assumption | refine Hdr.drewN ?_ _ | refine Hdr.drew ?_ | refine Hdr.alloc ?_ _)))
    (first | (go_at_call 15; refine (Hdr.u32 (by with_reducible assumption) hb 4 5 (by omega)).mono ?_; rintro e w2 ⟨rfl, q, rfl⟩))
  rw [hn.out]
  go_wp2_with (go_at_call 16; refine (hcheck _).mono ?_; rintro e w4 ⟨rfl, rfl⟩)
  go_ret3
  exact ⟨k', hk', rfl, (hR2.keep (Below.heap_alloc _ (.cells #[] 58) _ (by omega))).drewN (1 + q), (hB2.alloc _).drewN _⟩

set_option maxHeartbeats 4000000 in
set_option maxRecDepth 100000 in
/-- readHeader, the header there, the length above the limit. -/
theorem head_large (F : Interp) {N : Nat} {p0 p1 p2 pm : Addr} {db dl : Nat} {D : Nat → Int} {ca : Option Addr} {cl : Nat} {cz : Nat → Int} (dc cc : Nat) (fail : Bool) (lim n : Int) (w : World) (hF : F.answers w.tape)
    (G : Gl N p0 p1 p2 pm db dl D ca cl cz w) (hR : Rd w N db dl dc 0 0 ca cl cc fail pm) (hN : N < w.heap.size) (hdl : 5 ≤ dl) (hd2 : dl ≤ 1073741824) (hdc : dl ≤ dc) (hcl2 : cl ≤ 1073741824)
    (hn : be32 (D 0) (D 1) (D 2) (D 3) = n) (hl : lim < n) :
    Calls Ybaf.prog 9 #[.iface 29 (.pointer (some ⟨N, 0, none⟩)), .int .i64 lim] w fun e w' => ∃ k' x, e = .returned (.tuple #[.int .u8 0, .int .i64 0, x]) ∧ Wraps w.heap.size w' p0 x ∧
      Rd w' N db dl dc 5 k' ca cl cc fail pm ∧ But N w w' := by
  have hfull := head_full dc cc fail w G hR hN (by omega) hdc hcl2
  have hb := G.data.2
  have hn0 : 0 ≤ n ∧ n < 4294967296 := by
    have := hb 0; have := hb 1; have := hb 2; have := hb 3
    unfold be32 at hn; omega
  have hwr : IntKind.i64.wrap n = n := by rw [IntKind.wrap_i64]; omega
  replace hn : Hid _ := hn
  go_enter Ybaf.func9, Ybaf.ntmps9
  go_wp2_with (go_at_call 10; refine hfull.mono ?_; rintro e w' ⟨q, k', hq, hk', rfl, hR2, hc2, hG2, hB2, hz2⟩; obtain rfl : q = 5 := (by omega); rw [fullE_full]; have d1 := hG2.c1; have d2 := hG2.c2; have h1 := nil_left p1 w'; have h2 := nil_left p2 w'; have hH := Hdr.of hc2; have h4 := hH 4 (by omega); have hz3 : N + 1 < w'.heap.size := (by omega); have hz6 := hB2.size; clear hq hc2 hz2)
  go_region_held3 (fun w1 => Hdr D w.heap.size w1) (with_reducible (repeat (first | assumption | refine Hdr.drewN ?_ _ | refine Hdr.drew ?_ | refine Hdr.alloc ?_ _)))
    (first | (go_at_call 15; refine (Hdr.u32 (by with_reducible assumption) hb 4 5 (by omega)).mono ?_; rintro e w2 ⟨rfl, q, rfl⟩))
  rw [hn.out]
  have hB3 : But N w ((w'.alloc (Obj.cells #[] 58)).drewN (1 + q)) := (hB2.alloc _).drewN _
  have hz4 : N + 1 < ((w'.alloc (Obj.cells #[] 58)).drewN (1 + q)).heap.size := Nat.lt_of_lt_of_le hz3 (by simp)
  have hR3 := (hR2.keep (Below.heap_alloc _ (.cells #[] 58) _ (by omega))).drewN (1 + q)
  have hG3 := G.below (hB3.below (by omega)) (Nat.le_refl _)
  have hz5 := hB3.size
  clear hR2 hB2 hz3 hG2 hH h4 d1 d2 h1 h2
  generalize (w'.alloc (Obj.cells #[] 58)).drewN (1 + q) = w5 at *
  have hcheck := check_large F (D 4) n lim p0 w5 (by rw [hB3.tape]; exact hF) hl hG3.c0 hG3.s0
  go_wp2_with (go_at_call 16; refine hcheck.mono ?_; rintro e w4 ⟨x, rfl, hx, hb4⟩; have hx' := hx; obtain ⟨bx, hbx, rfl, hxc⟩ := hx)
  go_ret3
  obtain ⟨b2, hb2, he2, hc2⟩ := hx'
  exact ⟨k', _, rfl, ⟨b2, by omega, he2, hc2⟩, hR3.keep (hb4.block _ (by omega)), hB3.trans (.ofBelow hb4)⟩
end Go.Proofs.YbulkdkcwFmt
