import Derived.Test.YbulkdkcwFmtFull
import Derived.Lib.EndianBits
namespace Go.Proofs.YbulkdkcwFmt
open Go.RowKit Go.Stop
attribute [local go_sem ↓] Go.wp_at_zero Go.wp_at_succ

/-- The number that four bytes spell, the greatest first. -/
def be32 (x0 x1 x2 x3 : Int) : Int := x0 * 16777216 + x1 * 65536 + x2 * 256 + x3
theorem or32 (x0 x1 x2 x3 : Int) (a0 : 0 ≤ x0) (b0 : x0 < 256) (a1 : 0 ≤ x1) (b1 : x1 < 256) (a2 : 0 ≤ x2) (b2 : x2 < 256) (a3 : 0 ≤ x3) (b3 : x3 < 256) :
    bits BinOp.or IntKind.u32 (bits BinOp.or IntKind.u32 (bits BinOp.or IntKind.u32 x3 (x2 * 256)) (x1 * 65536)) (x0 * 16777216) = be32 x0 x1 x2 x3 := by
  simp (disch := omega) only [u32_or8, u32_or16, u32_or24]
  unfold be32; omega
theorem ret_int {k : IntKind} {a b : Int} (h : a = b) : Ending.returned (.int k a) = .returned (.int k b) := by rw [h]

set_option maxHeartbeats 4000000 in
set_option maxRecDepth 100000 in
theorem u32_calls (g o n c : Nat) (x0 x1 x2 x3 : Int) (w : World) (hn : 4 ≤ n) (a0 : 0 ≤ x0) (b0 : x0 < 256) (a1 : 0 ≤ x1) (b1 : x1 < 256) (a2 : 0 ≤ x2) (b2 : x2 < 256) (a3 : 0 ≤ x3) (b3 : x3 < 256)
    (c0 : w.cell? ⟨g, o, none⟩ = some (.int .u8 x0)) (c1 : w.cell? ⟨g, o + 1, none⟩ = some (.int .u8 x1)) (c2 : w.cell? ⟨g, o + 2, none⟩ = some (.int .u8 x2)) (c3 : w.cell? ⟨g, o + 3, none⟩ = some (.int .u8 x3)) :
    Calls Ybaf.prog 15 #[.agg #[], .slice (some ⟨g, o, none⟩) n c] w fun e w' => e = .returned (.int .u32 (be32 x0 x1 x2 x3)) ∧ ∃ q, w' = (w.alloc (.cells #[] 58)).drewN q := by
  have e0 : (w.alloc (.cells #[] 58)).drew.cell? ⟨g, o, none⟩ = some (.int .u8 x0) := cell?_alloc_old (.cells #[] 58) c0
  have e1 : (w.alloc (.cells #[] 58)).drew.cell? ⟨g, o + 1, none⟩ = some (.int .u8 x1) := cell?_alloc_old (.cells #[] 58) c1
  have e2 : (w.alloc (.cells #[] 58)).drew.cell? ⟨g, o + 2, none⟩ = some (.int .u8 x2) := cell?_alloc_old (.cells #[] 58) c2
  have e3 : (w.alloc (.cells #[] 58)).drew.cell? ⟨g, o + 3, none⟩ = some (.int .u8 x3) := cell?_alloc_old (.cells #[] 58) c3
  have d0 := cell?_alloc_old (.cells #[] 58) c0
  have d1 := cell?_alloc_old (.cells #[] 58) c1
  have d2 := cell?_alloc_old (.cells #[] 58) c2
  have d3 := cell?_alloc_old (.cells #[] 58) c3
  go_enter Ybaf.func15, Ybaf.ntmps15
  go_wp2
  go_quiet (fail)
  go_wp2
  go_ret
  exact ⟨ret_int (or32 x0 x1 x2 x3 a0 b0 a1 b1 a2 b2 a3 b3), _, rfl⟩

/-- x is a *fmt.wrapError, made since block M, that wraps the error at p. -/
def Wraps (M : Nat) (w' : World) (p : Addr) (x : Value) : Prop := ∃ b, M ≤ b ∧ x = .iface 74 (.pointer (some ⟨b, 0, none⟩)) ∧ w'.cell? ⟨b, 1, none⟩ = some (.iface 40 (.pointer (some p)))
theorem Wraps.made (M : Nat) (w : World) (p : Addr) (x : ByteArray) (h : M ≤ w.heap.size) : Wraps M (w.alloc (.cells #[.string x, .iface 40 (.pointer (some p))] 102)).drew p (.iface 74 (.pointer (some ⟨w.heap.size, 0, none⟩))) :=
  ⟨_, h, rfl, (World.cell?_alloc_new w _ _ _).trans rfl⟩
theorem Wraps.keep {M B : Nat} {w w' : World} {p : Addr} {x : Value} (h : Wraps M w p x) (b : Below B w w') (hB : w.heap.size ≤ B) : Wraps M w' p x := by
  obtain ⟨g, hg, rfl, hc⟩ := h
  refine ⟨g, hg, rfl, ?_⟩
  have := World.block_lt_of_cell? _ _ hc
  exact (World.cell?_of_block (w := w) (b.block g (by simp at this; omega))).trans hc

set_option maxHeartbeats 4000000 in
set_option maxRecDepth 100000 in
theorem check_ok (t n l : Int) (w : World) (h : n ≤ l) : Calls Ybaf.prog 16 #[.int .u8 t, .int .i64 n, .int .i64 l] w fun e w' => e = .returned .nilIface ∧ w' = w := by
  have h' : ¬ l < n := by omega
  go_enter Ybaf.func16, Ybaf.ntmps16
  go_wp2
  go_ret
  exact ⟨rfl, rfl⟩

set_option maxHeartbeats 4000000 in
set_option maxRecDepth 100000 in
theorem check_large (F : Interp) (t n l : Int) (p0 : Addr) (w : World) (hF : F.answers w.tape) (h : l < n) (c0 : w.cell? ⟨0, 0, none⟩ = some (.iface 40 (.pointer (some p0)))) (s0 : ∃ s, w.cell? p0 = some (.string s)) :
    Calls Ybaf.prog 16 #[.int .u8 t, .int .i64 n, .int .i64 l] w fun e w' => ∃ x, e = .returned x ∧ Wraps w.heap.size w' p0 x ∧ Below w.heap.size w w' := by
  obtain ⟨s, hs⟩ := s0
  have hE := errorf_len F w.heap.size t n l p0 s (w.alloc (.cells #[.iface 40 (.pointer (some p0)), .iface 32 (.int .u8 t), .iface 2 (.int .i64 n), .iface 2 (.int .i64 l)] 20)) hF
    ((World.cell?_alloc_new w _ _ _).trans rfl) ((World.cell?_alloc_new w _ _ _).trans rfl) ((World.cell?_alloc_new w _ _ _).trans rfl) ((World.cell?_alloc_new w _ _ _).trans rfl) (cell?_alloc_old _ hs)
  go_enter Ybaf.func16, Ybaf.ntmps16
  go_wp2_with (go_at_call 14; refine hE.mono ?_; rintro e w' ⟨w3, x, hb, rfl, rfl⟩)
  go_ret
  have hz := hb.size
  simp at hz
  refine ⟨_, rfl, Wraps.made _ _ _ _ (by omega), ?_⟩
  have hb' : Below w.heap.size w w3 := ((Below.refl w.heap.size w).alloc (Nat.le_refl _) _).trans (hb.mono (by simp))
  exact (hb'.alloc (by omega) _).drew

set_option maxHeartbeats 4000000 in
set_option maxRecDepth 100000 in
theorem pay_eof (t : Int) (p1 p2 : Addr) (w : World) (c1 : w.cell? ⟨1, 0, none⟩ = some (.iface 40 (.pointer (some p1)))) (c2 : w.cell? ⟨2, 0, none⟩ = some (.iface 40 (.pointer (some p2)))) (n12 : p1 ≠ p2)
    (b1 : ∃ c t, w.heap[p1.block]? = some (.cells c t (0, 0))) (b2 : ∃ c t, w.heap[p2.block]? = some (.cells c t (0, 0))) (p : Addr) (hp : p = p1 ∨ p = p2) :
    Calls Ybaf.prog 11 #[.int .u8 t, .iface 40 (.pointer (some p))] w fun e w' => e = .returned (.iface 40 (.pointer (some p2))) ∧ w' = w := by
  obtain ⟨i, hi, hcmp⟩ := Option.map_eq_some_iff.1 isComp
  obtain ⟨j, hj, hjs⟩ := Option.map_eq_some_iff.1 isSize
  obtain ⟨x1, y1, hb1⟩ := b1
  obtain ⟨x2, y2, hb2⟩ := b2
  have heq := fun p => run_eql_iface_ptr_same (P := Ybaf.prog) w p Ybaf.underlying27 Ybaf.underlying40 hi hcmp hj
  have hne := run_eql_iface_ptr_other (P := Ybaf.prog) w Ybaf.underlying27 Ybaf.underlying40 hi hcmp hj (by rw [hjs]; decide) n12.symm hb2 hb1
  rcases hp with rfl | rfl
  all_goals
    go_enter Ybaf.func11, Ybaf.ntmps11
    go_wp2
    go_ret
    exact ⟨rfl, rfl⟩

set_option maxHeartbeats 4000000 in
set_option maxRecDepth 100000 in
theorem pay_mine (F : Interp) (t : Int) (p1 p2 pm : Addr) (w : World) (hF : F.answers w.tape) (c1 : w.cell? ⟨1, 0, none⟩ = some (.iface 40 (.pointer (some p1)))) (c2 : w.cell? ⟨2, 0, none⟩ = some (.iface 40 (.pointer (some p2)))) (n1 : p1 ≠ pm) (n2 : p2 ≠ pm)
    (b1 : ∃ c t, w.heap[p1.block]? = some (.cells c t (0, 0))) (b2 : ∃ c t, w.heap[p2.block]? = some (.cells c t (0, 0))) (bm : ∃ c t, w.heap[pm.block]? = some (.cells c t (0, 0))) (sm : ∃ s, w.cell? pm = some (.string s)) :
    Calls Ybaf.prog 11 #[.int .u8 t, .iface 40 (.pointer (some pm))] w fun e w' => ∃ x, e = .returned x ∧ Wraps w.heap.size w' pm x ∧ Below w.heap.size w w' := by
  obtain ⟨i, hi, hcmp⟩ := Option.map_eq_some_iff.1 isComp
  obtain ⟨j, hj, hjs⟩ := Option.map_eq_some_iff.1 isSize
  obtain ⟨x1, y1, hb1⟩ := b1
  obtain ⟨x2, y2, hb2⟩ := b2
  obtain ⟨x3, y3, hb3⟩ := bm
  obtain ⟨s, hs⟩ := sm
  have hne1 := run_eql_iface_ptr_other (P := Ybaf.prog) w Ybaf.underlying27 Ybaf.underlying40 hi hcmp hj (by rw [hjs]; decide) n1.symm hb3 hb1
  have hne2 := run_eql_iface_ptr_other (P := Ybaf.prog) w Ybaf.underlying27 Ybaf.underlying40 hi hcmp hj (by rw [hjs]; decide) n2.symm hb3 hb2
  have hE := errorf_pay F w.heap.size t pm s (w.alloc (.cells #[.iface 32 (.int .u8 t), .iface 40 (.pointer (some pm))] 20)) hF
    ((World.cell?_alloc_new w _ _ _).trans rfl) ((World.cell?_alloc_new w _ _ _).trans rfl) (cell?_alloc_old _ hs)
  clear hb1 hb2 hb3
  go_enter Ybaf.func11, Ybaf.ntmps11
  go_wp2_with (go_at_call 14; refine hE.mono ?_; rintro e w' ⟨w3, x, hb, rfl, rfl⟩)
  go_ret
  have hz := hb.size
  simp at hz
  refine ⟨_, rfl, Wraps.made _ _ _ _ (by omega), ?_⟩
  have hb' : Below w.heap.size w w3 := ((Below.refl w.heap.size w).alloc (Nat.le_refl _) _).trans (hb.mono (by simp))
  exact (hb'.alloc (by omega) _).drew

theorem Only.below {N pb : Nat} {w w' : World} (h : Only N pb w w') (hp : N < pb) : Below N w w' := ⟨h.os, h.tape, h.output, Nat.le_of_eq h.size.symm, fun k hk => h.block k (by omega) (by omega)⟩
/-- Of the blocks that stood, N alone may have turned. -/
structure But (N : Nat) (w w' : World) : Prop where
  os : w'.os = w.os
  tape : w'.tape = w.tape
  output : w'.output = w.output
  size : w.heap.size ≤ w'.heap.size
  block : ∀ k, k < w.heap.size → k ≠ N → w'.heap[k]? = w.heap[k]?
theorem But.refl (N : Nat) (w : World) : But N w w := ⟨rfl, rfl, rfl, Nat.le_refl _, fun _ _ _ => rfl⟩
theorem But.trans {N : Nat} {a b c : World} (h : But N a b) (k : But N b c) : But N a c :=
  ⟨k.os.trans h.os, k.tape.trans h.tape, k.output.trans h.output, Nat.le_trans h.size k.size, fun i h1 h2 => (k.block i (Nat.lt_of_lt_of_le h1 h.size) h2).trans (h.block i h1 h2)⟩
theorem But.drew {N : Nat} {a b : World} (h : But N a b) : But N a b.drew := ⟨h.os, h.tape, h.output, h.size, h.block⟩
theorem But.drewN {N : Nat} {a b : World} (h : But N a b) (q : Nat) : But N a (b.drewN q) := ⟨h.os, h.tape, h.output, h.size, h.block⟩
theorem But.ofBelow {N : Nat} {a b : World} (h : Below a.heap.size a b) : But N a b := ⟨h.os, h.tape, h.output, h.size, fun k hk _ => h.block k hk⟩
theorem But.alloc {N : Nat} {a b : World} (h : But N a b) (o : Obj) : But N a (b.alloc o) := h.trans (.ofBelow ((Below.refl _ _).alloc (Nat.le_refl _) o))
theorem But.below {N : Nat} {w w' : World} (h : But N w w') (hN : N ≤ w.heap.size) : Below N w w' := ⟨h.os, h.tape, h.output, h.size, fun k hk => h.block k (by omega) (by omega)⟩
theorem But.ofOnly {N : Nat} {w w' : World} {o : Obj} (h : Only N w.heap.size (w.alloc o) w') : But N w w' :=
  ⟨h.os, h.tape, h.output, by rw [h.size]; simp, fun k hk hn => (h.block k hn (by omega)).trans (Below.heap_alloc w o k hk)⟩
theorem But.setCell {N : Nat} {a b : World} (h : But N a b) (p : Addr) (hp : a.heap.size ≤ p.block) (v : Value) : But N a (b.setCell p v) :=
  ⟨h.os, h.tape, h.output, Nat.le_trans h.size (by simp [World.setCell]), fun k hk hn => (Below.heap_setCell b p v k (by omega)).trans (h.block k hk hn)⟩
/-- Five zero bytes. -/
abbrev zero5 : List Value := [B8 0, B8 0, B8 0, B8 0, B8 0]

theorem heap_new (w : World) (o : Obj) : (w.alloc o).heap[w.heap.size]? = some o := by
  show (w.heap.push o)[w.heap.size]? = some o
  simp
theorem eq_same (p : Addr) (w : World) : (binOp .eql 27 (.iface 40 (.pointer (some p))) (.iface 40 (.pointer (some p)))).run Ybaf.prog w = .ok (.bool true) w := by
  obtain ⟨i, hi, hcmp⟩ := Option.map_eq_some_iff.1 isComp
  obtain ⟨j, hj, hjs⟩ := Option.map_eq_some_iff.1 isSize
  exact run_eql_iface_ptr_same (P := Ybaf.prog) w p Ybaf.underlying27 Ybaf.underlying40 hi hcmp hj
theorem eq_other {p q : Addr} (w : World) (hne : p ≠ q) (hp : ∃ c t, w.heap[p.block]? = some (.cells c t (0, 0))) (hq : ∃ c t, w.heap[q.block]? = some (.cells c t (0, 0))) :
    (binOp .eql 27 (.iface 40 (.pointer (some p))) (.iface 40 (.pointer (some q)))).run Ybaf.prog w = .ok (.bool false) w := by
  obtain ⟨i, hi, hcmp⟩ := Option.map_eq_some_iff.1 isComp
  obtain ⟨j, hj, hjs⟩ := Option.map_eq_some_iff.1 isSize
  obtain ⟨_, _, hb1⟩ := hp
  obtain ⟨_, _, hb2⟩ := hq
  exact run_eql_iface_ptr_other (P := Ybaf.prog) w Ybaf.underlying27 Ybaf.underlying40 hi hcmp hj (by rw [hjs]; decide) hne hb1 hb2
theorem short_cases (p1 p2 pm : Addr) (n : Nat) : shortE false p1 p2 pm n = p1 ∨ shortE false p1 p2 pm n = p2 := by
  unfold shortE
  by_cases h : n = 0 <;> simp [h]

/-- ReadFull of the header, in readHeader's own world. -/
theorem head_full {N : Nat} {p0 p1 p2 pm : Addr} {db dl : Nat} {D : Nat → Int} {ca : Option Addr} {cl : Nat} {cz : Nat → Int} (dc cc : Nat) (fail : Bool) (w : World)
    (G : Gl N p0 p1 p2 pm db dl D ca cl cz w) (hR : Rd w N db dl dc 0 0 ca cl cc fail pm) (hN : N < w.heap.size) (hdl : dl ≤ 1073741824) (hdc : dl ≤ dc) (hcl2 : cl ≤ 1073741824) :
    Calls Ybaf.prog 10 #[.iface 29 (.pointer (some ⟨N, 0, none⟩)), .slice (some ⟨w.heap.size, 0, none⟩) 5 5] (w.alloc (.cells #[B8 0, B8 0, B8 0, B8 0, B8 0] 55)) fun e w' => ∃ q k' : Nat, q = min 5 dl ∧ k' ≤ q ∧
      e = .returned (.tuple #[.int .i64 (q : Int), fullE fail p1 p2 pm q 5]) ∧ Rd w' N db dl dc q k' ca cl cc fail pm ∧ w'.heap[w.heap.size]? = some (.cells (splice zero5 0 (vals D 0 q)).toArray 55 (0, 0)) ∧ Gl N p0 p1 p2 pm db dl D ca cl cz w' ∧ But N w w' ∧ w'.heap.size = w.heap.size + 1 := by
  have G1 := G.below ((Below.refl w.heap.size w).alloc (Nat.le_refl _) (.cells #[B8 0, B8 0, B8 0, B8 0, B8 0] 55)) (Nat.le_of_lt hN)
  refine (full_any dc 0 0 cc fail w.heap.size 5 zero5 55 _ G1 (hR.keep (Below.heap_alloc _ _ _ hN)) hN hdl hdc (Nat.zero_le _) (by omega) (Nat.le_refl _) hcl2 (heap_new _ _) rfl).mono ?_
  rintro e w' ⟨q, k', hq, hk', rfl, hR2, hc2, hO⟩
  refine ⟨q, k', by omega, by omega, rfl, by rw [Nat.zero_add] at hR2; exact hR2, hc2, G1.only hO hN, But.ofOnly hO, ?_⟩
  rw [hO.size]
  simp

set_option maxHeartbeats 4000000 in
set_option maxRecDepth 100000 in
/-- readHeader, the stream too short, EOF. -/
theorem head_eof {N : Nat} {p0 p1 p2 pm : Addr} {db dl : Nat} {D : Nat → Int} {ca : Option Addr} {cl : Nat} {cz : Nat → Int} (dc cc : Nat) (lim : Int) (w : World)
    (G : Gl N p0 p1 p2 pm db dl D ca cl cz w) (hR : Rd w N db dl dc 0 0 ca cl cc false pm) (hN : N < w.heap.size) (hdl : dl < 5) (hdc : dl ≤ dc) (hcl2 : cl ≤ 1073741824) :
    Calls Ybaf.prog 9 #[.iface 29 (.pointer (some ⟨N, 0, none⟩)), .int .i64 lim] w fun e w' => ∃ k', e = .returned (.tuple #[.int .u8 0, .int .i64 0, .iface 40 (.pointer (some (shortE false p1 p2 pm dl)))]) ∧
      Rd w' N db dl dc dl k' ca cl cc false pm ∧ But N w w' := by
  have hfull := head_full dc cc false w G hR hN (by omega) hdc hcl2
  rcases short_cases p1 p2 pm dl with hs | hs
  all_goals rw [hs]
  all_goals replace hs : Hid _ := hs
  all_goals
    go_enter Ybaf.func9, Ybaf.ntmps9
    go_wp2_with (go_at_call 10; refine hfull.mono ?_; rintro e w' ⟨q, k', hq, hk', rfl, hR2, hc2, hG2, hB2, hz2⟩; obtain rfl : q = dl := (by omega); rw [fullE_short _ _ _ _ _ _ hdl, hs.out]; have d1 := hG2.c1; have d2 := hG2.c2; have h1 := eq_other w' hG2.n12.symm hG2.b2 hG2.b1; have h2 := eq_same p1 w'; have h3 := eq_same p2 w'; clear hq hs hc2 hz2)
    go_ret3
    exact ⟨k', rfl, hR2, hB2⟩

theorem nil_left (p : Addr) (w : World) : (binOp .eql 27 .nilIface (.iface 40 (.pointer (some p)))).run Ybaf.prog w = .ok (.bool false) w := run_eql_iface_nil_left w 40 _ Ybaf.underlying27
theorem cell_of_row {w : World} {g : Nat} {cs : Array Value} {t : TypeId} (h : w.heap[g]? = some (.cells cs t (0, 0))) (i : Nat) : w.cell? ⟨g, i, none⟩ = cs[i]? := by
  simp [World.cell?, h]
theorem vals_at (D : Nat → Int) (p m i : Nat) (h : i < m) : (vals D p m).toArray[i]? = some (B8 (D (p + i))) := by
  simp [vals, h]

end Go.Proofs.YbulkdkcwFmt
