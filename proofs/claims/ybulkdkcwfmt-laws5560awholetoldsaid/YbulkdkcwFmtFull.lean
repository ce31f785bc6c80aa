import Derived.Test.YbulkdkcwFmtRead
import Derived.Test.YbulkdkcwFmtIs
import Derived.LaidEql
namespace Go.Proofs.YbulkdkcwFmt
open Go.RowKit
attribute [local go_sem ↓] Go.wp_at_zero Go.wp_at_succ

/-- What lies below block N and stays: the sentinels, the reader's own failure, the data, the chunk sizes. -/
structure Gl (N : Nat) (p0 p1 p2 pm : Addr) (db dl : Nat) (D : Nat → Int) (ca : Option Addr) (cl : Nat) (cz : Nat → Int) (w : World) : Prop where
  lo : 5 ≤ N
  c0 : w.cell? ⟨0, 0, none⟩ = some (.iface 40 (.pointer (some p0)))
  c1 : w.cell? ⟨1, 0, none⟩ = some (.iface 40 (.pointer (some p1)))
  c2 : w.cell? ⟨2, 0, none⟩ = some (.iface 40 (.pointer (some p2)))
  s0 : ∃ s, w.cell? p0 = some (.string s)
  sm : ∃ s, w.cell? pm = some (.string s)
  b0 : ∃ c t, w.heap[p0.block]? = some (.cells c t (0, 0))
  b1 : ∃ c t, w.heap[p1.block]? = some (.cells c t (0, 0))
  b2 : ∃ c t, w.heap[p2.block]? = some (.cells c t (0, 0))
  bm : ∃ c t, w.heap[pm.block]? = some (.cells c t (0, 0))
  l0 : p0.block < N
  l1 : p1.block < N
  l2 : p2.block < N
  lm : pm.block < N
  n01 : p0 ≠ p1
  n02 : p0 ≠ p2
  n0m : p0 ≠ pm
  n12 : p1 ≠ p2
  n1m : p1 ≠ pm
  n2m : p2 ≠ pm
  data : Bytes w db dl D
  ld : db < N
  chunks : Ck w ca cl cz
  lc : 0 < cl → ∀ a, ca = some a → a.block < N

theorem Gl.keep {N : Nat} {p0 p1 p2 pm : Addr} {db dl : Nat} {D : Nat → Int} {ca : Option Addr} {cl : Nat} {cz : Nat → Int} {w w' : World} (h : Gl N p0 p1 p2 pm db dl D ca cl cz w)
    (hk : ∀ k, k < N → w'.heap[k]? = w.heap[k]?) : Gl N p0 p1 p2 pm db dl D ca cl cz w' := by
  have hc : ∀ p : Addr, p.block < N → w'.cell? p = w.cell? p := fun p hp => World.cell?_of_block (w := w) (hk _ hp)
  refine { h with c0 := ?_, c1 := ?_, c2 := ?_, s0 := ?_, sm := ?_, b0 := ?_, b1 := ?_, b2 := ?_, bm := ?_, data := ?_, chunks := ?_ }
  · rw [hc _ (Nat.lt_of_lt_of_le (by decide) h.lo)]; exact h.c0
  · rw [hc _ (Nat.lt_of_lt_of_le (by decide) h.lo)]; exact h.c1
  · rw [hc _ (Nat.lt_of_lt_of_le (by decide) h.lo)]; exact h.c2
  · rw [hc _ h.l0]; exact h.s0
  · rw [hc _ h.lm]; exact h.sm
  · rw [hk _ h.l0]; exact h.b0
  · rw [hk _ h.l1]; exact h.b1
  · rw [hk _ h.l2]; exact h.b2
  · rw [hk _ h.lm]; exact h.bm
  · exact ⟨fun i hi => (hc _ h.ld).trans (h.data.1 i hi), h.data.2⟩
  · refine ⟨?_, h.chunks.2⟩
    rcases h.chunks.1 with e | ⟨e, cb, co, ha, hb⟩
    · exact .inl e
    · exact .inr ⟨e, cb, co, ha, fun i hi => (hc ⟨cb, co + i, none⟩ (h.lc e ⟨cb, co, none⟩ ha)).trans (hb i hi)⟩
theorem Gl.below {N M : Nat} {p0 p1 p2 pm : Addr} {db dl : Nat} {D : Nat → Int} {ca : Option Addr} {cl : Nat} {cz : Nat → Int} {w w' : World} (h : Gl N p0 p1 p2 pm db dl D ca cl cz w) (b : Below M w w') (hM : N ≤ M) : Gl N p0 p1 p2 pm db dl D ca cl cz w' :=
  h.keep fun k hk => b.block k (by omega)
theorem Gl.only {N pb : Nat} {p0 p1 p2 pm : Addr} {db dl : Nat} {D : Nat → Int} {ca : Option Addr} {cl : Nat} {cz : Nat → Int} {w w' : World} (h : Gl N p0 p1 p2 pm db dl D ca cl cz w) (o : Only N pb w w') (hM : N < pb) : Gl N p0 p1 p2 pm db dl D ca cl cz w' :=
  h.keep fun k hk => o.block k (by omega) (by omega)

theorem getElem_setRow (w : World) (g : Nat) (cur : Array Value) (t : TypeId) (h : w.heap[g]? = some (.cells cur t (0, 0))) (cs : Array Value) : (w.setRow g cs).heap[g]? = some (.cells cs t (0, 0)) := by
  simp [World.setRow, Array.getElem?_modify, h]

/-- The reader behind a setRow of another block and a new position. -/
theorem Rd.step {w : World} {rb db dl dc pos k : Nat} {ca : Option Addr} {cl cc : Nat} {fail : Bool} {pm : Addr} (h : Rd w rb db dl dc pos k ca cl cc fail pm) (pb : Nat) (hb : rb ≠ pb) (cs : Array Value) (p' : Nat) :
    Rd ((w.setRow pb cs).setCell ⟨rb, 1, none⟩ (.int .i64 (p' : Int))) rb db dl dc p' k ca cl cc fail pm := by
  obtain ⟨c0, c1, c2, c3, c4, c5, fz⟩ := h
  have hr : ∀ i, (w.setRow pb cs).cell? ⟨rb, i, none⟩ = w.cell? ⟨rb, i, none⟩ := fun i => cell_setRow _ _ _ _ hb
  have hf : ∀ i, (w.setRow pb cs).frozen? ⟨rb, i, none⟩ = w.frozen? ⟨rb, i, none⟩ := fun i => frozen_setRow _ _ _ _ hb
  refine ⟨?_, ?_, ?_, ?_, ?_, ?_, fun i => ?_⟩
  · rw [World.cell?_setCell_other _ _ _ _ (by simp), hr]; exact c0
  · exact World.cell?_setCell_same _ _ _ ((hr 1).trans c1)
  · rw [World.cell?_setCell_other _ _ _ _ (by simp), hr]; exact c2
  · rw [World.cell?_setCell_other _ _ _ _ (by simp), hr]; exact c3
  · rw [World.cell?_setCell_other _ _ _ _ (by simp), hr]; exact c4
  · rw [World.cell?_setCell_other _ _ _ _ (by simp), hr]; exact c5
  · rw [World.frozen?_setCell, hf]; exact fz i
theorem Rd.tick {w : World} {rb db dl dc pos k : Nat} {ca : Option Addr} {cl cc : Nat} {fail : Bool} {pm : Addr} (h : Rd w rb db dl dc pos k ca cl cc fail pm) (k' : Nat) :
    Rd (w.setCell ⟨rb, 3, none⟩ (.int .i64 (k' : Int))) rb db dl dc pos k' ca cl cc fail pm := by
  obtain ⟨c0, c1, c2, c3, c4, c5, fz⟩ := h
  refine ⟨?_, ?_, ?_, ?_, ?_, ?_, fun i => ?_⟩
  · rw [World.cell?_setCell_other _ _ _ _ (by simp)]; exact c0
  · rw [World.cell?_setCell_other _ _ _ _ (by simp)]; exact c1
  · rw [World.cell?_setCell_other _ _ _ _ (by simp)]; exact c2
  · exact World.cell?_setCell_same _ _ _ c3
  · rw [World.cell?_setCell_other _ _ _ _ (by simp)]; exact c4
  · rw [World.cell?_setCell_other _ _ _ _ (by simp)]; exact c5
  · rw [World.frozen?_setCell]; exact fz i
theorem Rd.drewN {w : World} {rb db dl dc pos k : Nat} {ca : Option Addr} {cl cc : Nat} {fail : Bool} {pm : Addr} (h : Rd w rb db dl dc pos k ca cl cc fail pm) (q : Nat) : Rd (w.drewN q) rb db dl dc pos k ca cl cc fail pm := h
theorem Rd.keep {w w' : World} {rb db dl dc pos k : Nat} {ca : Option Addr} {cl cc : Nat} {fail : Bool} {pm : Addr} (h : Rd w rb db dl dc pos k ca cl cc fail pm) (hk : w'.heap[rb]? = w.heap[rb]?) : Rd w' rb db dl dc pos k ca cl cc fail pm := by
  have hr : ∀ i, w'.cell? ⟨rb, i, none⟩ = w.cell? ⟨rb, i, none⟩ := fun i => World.cell?_of_block (w := w) hk
  have hf : ∀ i, w'.frozen? ⟨rb, i, none⟩ = w.frozen? ⟨rb, i, none⟩ := fun i => World.frozen?_of_block (w := w) hk
  obtain ⟨c0, c1, c2, c3, c4, c5, fz⟩ := h
  exact ⟨(hr 0).trans c0, (hr 1).trans c1, (hr 2).trans c2, (hr 3).trans c3, (hr 4).trans c4, (hr 5).trans c5, fun i => (hf i).trans (fz i)⟩

/-- Read where bytes are left. -/
theorem read_some {N : Nat} {p0 p1 p2 pm : Addr} {db dl : Nat} {D : Nat → Int} {ca : Option Addr} {cl : Nat} {cz : Nat → Int} (dc pos k cc : Nat) (fail : Bool) (pb po pl pc : Nat) (cur : List Value) (t : TypeId) (w : World)
    (G : Gl N p0 p1 p2 pm db dl D ca cl cz w) (hR : Rd w N db dl dc pos k ca cl cc fail pm) (hpb : N < pb) (hpl : 0 < pl) (hplc : pl ≤ pc) (hdl : dl ≤ 1073741824) (hdc : dl ≤ dc) (hpos : pos < dl) (hp2 : pl ≤ 1073741824) (hk : k ≤ 1073741824) (hcl2 : cl ≤ 1073741824)
    (hcur : w.heap[pb]? = some (.cells cur.toArray t (0, 0))) (hfit : po + pl ≤ cur.length) :
    Calls Ybaf.prog 36 #[.pointer (some ⟨N, 0, none⟩), .slice (some ⟨pb, po, none⟩) pl pc] w fun e w' => ∃ m k' : Nat, 0 < m ∧ m ≤ pl ∧ pos + m ≤ dl ∧ k' ≤ k + 1 ∧ e = .returned (.tuple #[.int .i64 (m : Int), .nilIface]) ∧
      Rd w' N db dl dc (pos + m) k' ca cl cc fail pm ∧ w'.heap[pb]? = some (.cells (splice cur po (vals D pos m)).toArray t (0, 0)) ∧ Only N pb w w' := by
  rcases G.chunks.1 with rfl | ⟨hc0, cb, co, rfl, hC⟩
  · refine (read_none N db dl dc pos k ca cc fail pm pb po pl pc D cur t w hpl hplc hdl hdc hpos hp2 hR G.data (by omega) hcur hfit (min pl (dl - pos)) rfl).mono ?_
    rintro e w' ⟨rfl, q, rfl⟩
    refine ⟨min pl (dl - pos), k, by omega, by omega, by omega, by omega, rfl, (hR.step pb (by omega) _ _).drewN q, ?_, ((Only.refl N pb w).setRow _ |>.setCell _ (.inl rfl) _).drewN q⟩
    exact (Below.heap_setCell _ _ _ pb (by simp; omega)).trans (getElem_setRow _ _ _ _ hcur _)
  · refine (read_chunk N db dl dc pos k cb co cl cc fail pm pb po pl pc D cz cur t w hpl hplc hdl hdc hpos hp2 hk hc0 hcl2 hR G.data hC G.chunks.2 (by omega) (by have := G.ld; omega) hcur hfit).mono ?_
    rintro e w' ⟨m, hm0, hm1, hm2, rfl, q, rfl⟩
    refine ⟨m, k + 1, by omega, by omega, by omega, by omega, rfl, ((hR.tick (k + 1)).step pb (by omega) _ _).drewN q, ?_, ((Only.refl N pb w).setCell _ (.inl rfl) _ |>.setRow _ |>.setCell _ (.inl rfl) _).drewN q⟩
    exact (Below.heap_setCell _ _ _ pb (by simp; omega)).trans (getElem_setRow _ _ _ _ ((Below.heap_setCell _ _ _ pb (by simp; omega)).trans hcur) _)

theorem vals_add (D : Nat → Int) (p a b : Nat) : vals D p (a + b) = vals D p a ++ vals D (p + a) b := by
  unfold vals
  rw [List.range_add, List.map_append, List.map_map]
  congr 1
  apply List.map_congr_left
  intro i _
  simp [Nat.add_assoc]
theorem splice_more (D : Nat → Int) (cur : List Value) (p a b : Nat) : splice (splice cur 0 (vals D p a)) a (vals D (p + a) b) = splice cur 0 (vals D p (a + b)) := by
  unfold splice
  simp only [vals_length, List.take_zero, List.nil_append, Nat.zero_add, vals_add]
  rw [List.take_append_of_le_length (by rw [vals_length]; omega), List.take_of_length_le (by rw [vals_length]; omega), List.drop_append, vals_length, List.drop_of_length_le (by rw [vals_length]; omega), List.drop_drop]
  simp [List.append_assoc, vals_length]
theorem splice_none (D : Nat → Int) (cur : List Value) (p : Nat) : splice cur 0 (vals D p 0) = cur := by simp [splice, vals]
theorem splice_all (D : Nat → Int) (cur : List Value) (p : Nat) : splice cur 0 (vals D p cur.length) = vals D p cur.length := by simp [splice, vals_length]

/-- 1 at nil. -/
def nilBit : Value → Nat
  | .nilIface => 1
  | _ => 0
theorem methodRead (v : Value) (w : World) : (Go.method 215 29 v "Read").run Ybaf.prog w = .ok (36, v) w := by kernel_rfl
theorem aheadRead (a : Addr) (w : World) : (Go.nilAhead 215 29 (.pointer (some a)) "Read").run Ybaf.prog w = .ok (some false) w := by kernel_rfl
/-- The address of what Read ends with. -/
def lastE (fail : Bool) (p1 pm : Addr) : Addr := if fail then pm else p1
/-- The address of what ReadFull ends with, a bytes read. -/
def shortE (fail : Bool) (p1 p2 pm : Addr) (a : Nat) : Addr := if fail then pm else if a = 0 then p1 else p2

/-- What io.ReadFull answers beside the count. -/
def fullE (fail : Bool) (p1 p2 pm : Addr) (q L : Nat) : Value := if q < L then .iface 40 (.pointer (some (shortE fail p1 p2 pm q))) else .nilIface
theorem fullE_short (fail : Bool) (p1 p2 pm : Addr) (q L : Nat) (h : q < L) : fullE fail p1 p2 pm q L = .iface 40 (.pointer (some (shortE fail p1 p2 pm q))) := if_pos h
theorem fullE_full (fail : Bool) (p1 p2 pm : Addr) (L : Nat) : fullE fail p1 p2 pm L L = .nilIface := if_neg (Nat.lt_irrefl _)
theorem ret_pair (n : Int) {x y : Value} (h : x = y) : Ending.returned (.tuple #[.int .i64 n, x]) = .returned (.tuple #[.int .i64 n, y]) := by rw [h]
/-- What holds behind io.ReadFull of L bytes into block pb. -/
def Got (N : Nat) (p1 p2 pm : Addr) (db dl : Nat) (D : Nat → Int) (ca : Option Addr) (cl dc pos cc : Nat) (fail : Bool) (pb L : Nat) (cur : List Value) (t : TypeId) (w : World) (e : Ending) (w' : World) : Prop :=
  ∃ q k' : Nat, q = min L (dl - pos) ∧ k' ≤ pos + q ∧ e = .returned (.tuple #[.int .i64 (q : Int), fullE fail p1 p2 pm q L]) ∧
      Rd w' N db dl dc (pos + q) k' ca cl cc fail pm ∧ w'.heap[pb]? = some (.cells (splice cur 0 (vals D pos q)).toArray t (0, 0)) ∧ Only N pb w w'

set_option maxHeartbeats 4000000 in
set_option maxRecDepth 100000 in
theorem atLeast_any {N : Nat} {p0 p1 p2 pm : Addr} {db dl : Nat} {D : Nat → Int} {ca : Option Addr} {cl : Nat} {cz : Nat → Int} (dc pos k cc : Nat) (fail : Bool) (pb L : Nat) (cur : List Value) (t : TypeId) (w : World)
    (G : Gl N p0 p1 p2 pm db dl D ca cl cz w) (hR : Rd w N db dl dc pos k ca cl cc fail pm) (hpb : N < pb) (hdl : dl ≤ 1073741824) (hdc : dl ≤ dc) (hpos : pos ≤ dl) (hL : L ≤ 2000000) (hk : k ≤ pos) (hcl2 : cl ≤ 1073741824)
    (hcur : w.heap[pb]? = some (.cells cur.toArray t (0, 0))) (hfit : cur.length = L) :
    Calls Ybaf.prog 17 #[.iface 29 (.pointer (some ⟨N, 0, none⟩)), .slice (some ⟨pb, 0, none⟩) L L, .int .i64 (L : Int)] w (Got N p1 p2 pm db dl D ca cl dc pos cc fail pb L cur t w) := by
  have mR := methodRead
  have mA := aheadRead
  go_enter Ybaf.func17, Ybaf.ntmps17
  go_wp2
  go_loopw [6, 7] (fun n er wr => ∃ q k' : Nat, q ≤ L ∧ pos + q ≤ dl ∧ k' ≤ pos + q ∧ n = .int .i64 (q : Int) ∧ (er = .nilIface ∨ er = .iface 40 (.pointer (some (lastE fail p1 pm))) ∧ q < L ∧ pos + q = dl) ∧
      Rd wr N db dl dc (pos + q) k' ca cl cc fail pm ∧ wr.heap[pb]? = some (.cells (splice cur 0 (vals D pos q)).toArray t (0, 0)) ∧ Only N pb w wr) (fun n er _ => 2 * (L - (intOf n).toNat) + nilBit er)
  case atStart => exact ⟨0, k, Nat.zero_le _, by omega, by omega, rfl, .inl rfl, hR, by rw [splice_none]; exact hcur, Only.refl _ _ _⟩
  case round =>
    obtain ⟨q, k', hq, hpq, hk', rfl, her, hRq, hcq, hO⟩ := hrel
    have Gq := G.only hO hpb
    by_cases hqL : q < L
    · have f1 : (q : Int) < (L : Int) := by omega
      have f2 : (q : Int) ≤ (L : Int) := by omega
      have f3 : ¬ L = q := by omega
      have f4 : (0 : Int) ≤ (q : Int) := by omega
      have hlen : (splice cur 0 (vals D pos q)).length = L := by rw [length_splice _ _ _ (by rw [vals_length]; omega)]; exact hfit
      rcases her with rfl | ⟨rfl, _, hdl1⟩
      · by_cases hp : pos + q < dl
        · have hrd := read_some dc (pos + q) k' cc fail pb q (L - q) (L - q) _ t wr.drew (Gq.keep fun _ _ => rfl) (hRq.drewN 1) hpb (by omega) (Nat.le_refl _) hdl hdc hp (by omega) (by omega) hcl2 hcq (by omega)
          go_wp2
          go_region_held3 (fun _ => True) (trivial)
            (first | (go_at_call 36; refine hrd.mono ?_; rintro e w' ⟨m, k2, hm0, hm1, hm2, hk2, rfl, hR2, hc2, hO2⟩))
          go_wp2
          exact ⟨⟨q + m, k2, by omega, by omega, by omega, by go_num, .inl rfl, by rw [← Nat.add_assoc]; exact hR2, by rw [← splice_more]; exact hc2, hO.trans ((Only.refl N pb wr).drew.trans hO2)⟩, by simp [intOf, nilBit]; omega⟩
        · obtain rfl : dl = pos + q := by omega
          have hrd : Calls Ybaf.prog 36 #[.pointer (some ⟨N, 0, none⟩), .slice (some ⟨pb, q, none⟩) (L - q) (L - q)] wr.drew fun e w' => e = .returned (.tuple #[.int .i64 0, .iface 40 (.pointer (some (lastE fail p1 pm)))]) ∧ ∃ q, w' = wr.drew.drewN q := read_end N db (pos + q) dc k' ca cl cc fail pm p1 (some ⟨pb, q, none⟩) (L - q) (L - q) wr.drew (by omega) (hRq.drewN 1) Gq.c1
          go_wp2
          go_region_held3 (fun _ => True) (trivial)
            (first | (go_at_call 36; refine hrd.mono ?_; rintro e w' ⟨rfl, n, rfl⟩))
          go_wp2
          exact ⟨⟨q, k', by omega, by omega, by omega, by go_num, .inr ⟨rfl, hqL, rfl⟩, hRq, hcq, hO.drewN _⟩, by simp [intOf, nilBit]⟩
      · obtain ⟨i, hi, hcmp⟩ := Option.map_eq_some_iff.1 isComp
        obtain ⟨j, hj, hjs⟩ := Option.map_eq_some_iff.1 isSize
        obtain ⟨cm, tm, hbm⟩ := Gq.bm
        obtain ⟨ce, te, hbe⟩ := Gq.b1
        have heq := run_eql_iface_ptr_same (P := Ybaf.prog) wr p1 Ybaf.underlying27 Ybaf.underlying40 hi hcmp hj
        have hne := run_eql_iface_ptr_other (P := Ybaf.prog) wr Ybaf.underlying27 Ybaf.underlying40 hi hcmp hj (by rw [hjs]; decide) Gq.n1m.symm hbm hbe
        have d1 := Gq.c1
        have d2 := Gq.c2
        by_cases hq0 : q = 0
        · subst hq0
          have f6 : (0 : Int) < (L : Int) := by omega
          have f7 : ¬ (L : Int) ≤ 0 := by omega
          have hs : shortE fail p1 p2 pm 0 = lastE fail p1 pm := by simp [shortE, lastE]
          clear d1 d2 heq hne f1 f2 f3 f4
          go_wp2
          go_ret2
          exact ⟨0, k', by omega, hk', ret_pair _ (by rw [fullE_short _ _ _ _ _ _ hqL, hs]; rfl), hRq, hcq, hO⟩
        · have f5 : (0 : Int) < (q : Int) := by omega
          cases fail
          · have hs : shortE false p1 p2 pm q = p2 := by simp [shortE, hq0]
            have hla : lastE false p1 pm = p1 := rfl
            rw [hla]
            go_wp2
            go_ret2
            exact ⟨q, k', by omega, hk', ret_pair _ (by rw [fullE_short _ _ _ _ _ _ hqL, hs]; rfl), hRq, hcq, hO⟩
          · have hs : shortE true p1 p2 pm q = pm := by simp [shortE]
            have hla : lastE true p1 pm = pm := rfl
            rw [hla]
            go_wp2
            go_ret2
            exact ⟨q, k', by omega, hk', ret_pair _ (by rw [fullE_short _ _ _ _ _ _ hqL, hs]; rfl), hRq, hcq, hO⟩
    · obtain rfl : q = L := by omega
      go_wp2
      go_ret2
      exact ⟨q, k', by omega, hk', ret_pair _ (by rw [fullE_full]; rfl), hRq, hcq, hO⟩

/-- io.ReadFull over the reader. -/
theorem full_any {N : Nat} {p0 p1 p2 pm : Addr} {db dl : Nat} {D : Nat → Int} {ca : Option Addr} {cl : Nat} {cz : Nat → Int} (dc pos k cc : Nat) (fail : Bool) (pb L : Nat) (cur : List Value) (t : TypeId) (w : World)
    (G : Gl N p0 p1 p2 pm db dl D ca cl cz w) (hR : Rd w N db dl dc pos k ca cl cc fail pm) (hpb : N < pb) (hdl : dl ≤ 1073741824) (hdc : dl ≤ dc) (hpos : pos ≤ dl) (hL : L ≤ 2000000) (hk : k ≤ pos) (hcl2 : cl ≤ 1073741824)
    (hcur : w.heap[pb]? = some (.cells cur.toArray t (0, 0))) (hfit : cur.length = L) :
    Calls Ybaf.prog 10 #[.iface 29 (.pointer (some ⟨N, 0, none⟩)), .slice (some ⟨pb, 0, none⟩) L L] w (Got N p1 p2 pm db dl D ca cl dc pos cc fail pb L cur t w) := by
  go_enter Ybaf.func10, Ybaf.ntmps10
  go_wp2_with (go_at_call 17; refine (atLeast_any dc pos k cc fail pb L cur t w G hR hpb hdl hdc hpos hL hk hcl2 hcur hfit).mono ?_; rintro e w' ⟨q, k', hq, hk', rfl, hR2, hc2, hO⟩)
  go_ret2
  subst hq
  exact ⟨_, k', rfl, hk', rfl, hR2, hc2, hO⟩
end Go.Proofs.YbulkdkcwFmt
