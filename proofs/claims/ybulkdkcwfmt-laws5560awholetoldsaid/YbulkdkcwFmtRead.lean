import Derived.Test.YbulkdkcwFmtErrs
import Derived.Tactics
import Derived.Tactics2
import Derived.StillTactics
import Derived.OwnWalk
import Derived.Laws.Pointers
import Derived.LoopTactic
import Derived.Deep.QuietTactic
import Derived.BigQuiet
import Derived.Deep.Draws
import Derived.Deep.RegionHeld3
import Derived.Deep.DrawnRows
import Derived.Deep.Light
import Derived.Deep.DeepCutAuto
import Derived.Laws.CopyOwn
import Derived.Stop.LaidErr
namespace Go.Proofs.YbulkdkcwFmt
open Go.RowKit
attribute [local go_sem ↓] Go.wp_at_zero Go.wp_at_succ

/-- A byte as a value. -/
abbrev B8 (x : Int) : Value := .int .u8 x
/-- The reader behind ⟨rb, 0⟩. -/
def Rd (w : World) (rb db dl dc pos k : Nat) (ca : Option Addr) (cl cc : Nat) (fail : Bool) (pm : Addr) : Prop :=
  w.cell? ⟨rb, 0, none⟩ = some (.slice (some ⟨db, 0, none⟩) dl dc) ∧ w.cell? ⟨rb, 1, none⟩ = some (.int .i64 (pos : Int)) ∧ w.cell? ⟨rb, 2, none⟩ = some (.slice ca cl cc) ∧
  w.cell? ⟨rb, 3, none⟩ = some (.int .i64 (k : Int)) ∧ w.cell? ⟨rb, 4, none⟩ = some (.bool fail) ∧ w.cell? ⟨rb, 5, none⟩ = some (.iface 40 (.pointer (some pm))) ∧ ∀ i, w.frozen? ⟨rb, i, none⟩ = false
/-- Block g's first n cells hold the bytes z 0, z 1, ... -/
def Bytes (w : World) (g n : Nat) (z : Nat → Int) : Prop := (∀ i, i < n → w.cell? ⟨g, i, none⟩ = some (B8 (z i))) ∧ ∀ i, 0 ≤ z i ∧ z i < 256
/-- The chunk sizes. -/
def Ck (w : World) (ca : Option Addr) (cl : Nat) (cz : Nat → Int) : Prop :=
  (cl = 0 ∨ 0 < cl ∧ ∃ cb co, ca = some ⟨cb, co, none⟩ ∧ ∀ i, i < cl → w.cell? ⟨cb, co + i, none⟩ = some (B8 (cz i))) ∧ ∀ i, 0 ≤ cz i ∧ cz i < 256
/-- At most the blocks rb and pb have turned. -/
structure Only (rb pb : Nat) (w w' : World) : Prop where
  os : w'.os = w.os
  tape : w'.tape = w.tape
  output : w'.output = w.output
  size : w'.heap.size = w.heap.size
  block : ∀ k, k ≠ rb → k ≠ pb → w'.heap[k]? = w.heap[k]?
theorem Only.refl (rb pb : Nat) (w : World) : Only rb pb w w := ⟨rfl, rfl, rfl, rfl, fun _ _ _ => rfl⟩
theorem Only.trans {rb pb : Nat} {a b c : World} (h : Only rb pb a b) (k : Only rb pb b c) : Only rb pb a c :=
  ⟨k.os.trans h.os, k.tape.trans h.tape, k.output.trans h.output, k.size.trans h.size, fun i h1 h2 => (k.block i h1 h2).trans (h.block i h1 h2)⟩
theorem Only.drewN {rb pb : Nat} {a b : World} (h : Only rb pb a b) (q : Nat) : Only rb pb a (b.drewN q) := ⟨h.os, h.tape, h.output, h.size, h.block⟩
theorem Only.drew {rb pb : Nat} {a b : World} (h : Only rb pb a b) : Only rb pb a b.drew := ⟨h.os, h.tape, h.output, h.size, h.block⟩
theorem Only.setCell {rb pb : Nat} {a b : World} (h : Only rb pb a b) (p : Addr) (hp : p.block = rb ∨ p.block = pb) (v : Value) : Only rb pb a (b.setCell p v) :=
  h.trans ⟨rfl, rfl, rfl, by simp [World.setCell], fun k h1 h2 => Below.heap_setCell b p v k (by rcases hp with e | e <;> rw [e] <;> assumption)⟩
theorem Only.setRow {rb pb : Nat} {a b : World} (h : Only rb pb a b) (cs : Array Value) : Only rb pb a (b.setRow pb cs) :=
  h.trans ⟨rfl, rfl, rfl, by simp [World.setRow], fun k _ h2 => setRow_other b pb k cs h2⟩
theorem Only.cell {rb pb : Nat} {w w' : World} (h : Only rb pb w w') {p : Addr} (h1 : p.block ≠ rb) (h2 : p.block ≠ pb) : w'.cell? p = w.cell? p := World.cell?_of_block (w := w) (h.block p.block h1 h2)
theorem Only.frozen {rb pb : Nat} {w w' : World} (h : Only rb pb w w') {p : Addr} (h1 : p.block ≠ rb) (h2 : p.block ≠ pb) : w'.frozen? p = w.frozen? p := World.frozen?_of_block (w := w) (h.block p.block h1 h2)

set_option maxHeartbeats 4000000 in
set_option maxRecDepth 100000 in
theorem read_end (rb db dl dc k : Nat) (ca : Option Addr) (cl cc : Nat) (fail : Bool) (pm pe : Addr) (pa : Option Addr) (pl pc : Nat) (w : World) (hpl : 0 < pl) 
    (hR : Rd w rb db dl dc dl k ca cl cc fail pm) (hE : w.cell? ⟨1, 0, none⟩ = some (.iface 40 (.pointer (some pe)))) :
    Calls Ybaf.prog 36 #[.pointer (some ⟨rb, 0, none⟩), .slice pa pl pc] w fun e w' => e = .returned (.tuple #[.int .i64 0, .iface 40 (.pointer (some (if fail then pm else pe)))]) ∧ ∃ q, w' = w.drewN q := by
  obtain ⟨c0, c1, c2, c3, c4, c5, _⟩ := hR
  have hp : ((pl : Int) == 0) = false := by rw [beq_eq_false_iff_ne]; omega
  cases fail
  all_goals
    go_enter Ybaf.func36, Ybaf.ntmps36
    go_wp2
    go_quiet (fail)
    go_wp2
    go_quiet (fail)
    go_wp2
    go_ret2
    exact ⟨rfl, _, rfl⟩

/-- copy into a row that is known whole, at a step of a region that draws: the world written out. -/
theorem step_copy_row {P : Program} {ops : Array Oper} {o : Oper} {a : Act} {w : World} {K : Act → World → Prop} {Q : Exit → Act → World → Prop} {E : Prop} (hgd : o.guard = none) (d s : Operand) (dT sT : TypeId)
    (ho : o.op = .call { callee := .builtin .copy, args := #[d, s], argTypes := #[dT, sT] }) (elem : TypeId) (hu : P.underlying dT = some (.slice elem)) (hsz : (P.info? elem).map (·.size) = some 1)
    (g off dLen dCap : Nat) (ad : Addr) (sLen sCap : Nat) (hd : a.eval d = .slice (some ⟨g, off, none⟩) dLen dCap) (hs : a.eval s = .slice (some ad) sLen sCap)
    (cur : List Value) (t : TypeId) (hg : w.heap[g]? = some (.cells cur.toArray t (0, 0))) (cs : List Value) (hn : cs.length = Nat.min sLen dLen)
    (hsrc : ∀ j v, cs[j]? = some v → w.cell? (ad.add j) = some v) (hfit : off + cs.length ≤ cur.length) (h1 : ∀ v ∈ cs, v.oneCell' = true)
    (h : K (a.put o.dst (goInt cs.length)) (w.setRow g (splice cur off cs).toArray)) :
    if Region.wanted o (yielded ops a.tmps) = true then Oper.wp P o a w K Q else E := by
  have hw : Region.wanted o (yielded ops a.tmps) = true := by simp [Region.wanted, hgd]
  rw [if_pos hw]
  have hrun := run_copy_row (P := P) w dT sT o.type elem g off dLen dCap ad sLen sCap cur.toArray t cs hu hsz hg hn hsrc (by simpa using hfit) h1
  unfold Oper.wp
  simp [execOp, ho, resolve, invoke, builtin, hd, hs, hrun, Result.andThen]
  have h' : K (a.put o.dst (goInt cs.length)) (w.setRow g (cur.take off ++ (cs ++ cur.drop (off + cs.length))).toArray) := h
  exact h'

theorem cell_setRow (w : World) (g : Nat) (cs : Array Value) (a : Addr) (h : a.block ≠ g) : (w.setRow g cs).cell? a = w.cell? a := World.cell?_of_block (w := w) (setRow_other w g a.block cs h)
theorem frozen_setRow (w : World) (g : Nat) (cs : Array Value) (a : Addr) (h : a.block ≠ g) : (w.setRow g cs).frozen? a = w.frozen? a := World.frozen?_of_block (w := w) (setRow_other w g a.block cs h)
/-- The bytes D p, D (p+1), .. as m values. -/
def vals (D : Nat → Int) (p m : Nat) : List Value := (List.range m).map fun i => B8 (D (p + i))
theorem vals_length (D : Nat → Int) (p m : Nat) : (vals D p m).length = m := by simp [vals]
theorem vals_get (D : Nat → Int) (p m j : Nat) (u : Value) (h : (vals D p m)[j]? = some u) : j < m ∧ u = B8 (D (p + j)) := by
  simp only [vals, List.getElem?_map] at h
  by_cases hj : j < m
  · rw [List.getElem?_range hj] at h; exact ⟨hj, by simpa using h.symm⟩
  · rw [List.getElem?_eq_none (by simpa using Nat.le_of_not_lt hj)] at h; cases h
theorem vals_one (D : Nat → Int) (p m : Nat) : ∀ v ∈ vals D p m, v.oneCell' = true := by
  intro u hu
  obtain ⟨_, _, rfl⟩ := List.mem_map.1 hu
  rfl
theorem addr_add (b o j : Nat) : (⟨b, o, none⟩ : Addr).add j = ⟨b, o + j, none⟩ := by unfold Addr.add; split <;> simp_all
theorem fin_drew (wc W w' : World) (pb rb : Nat) (q1 : Nat) {X : Array Value} {v : Value} (hW : wc = W.drewN q1) (h : ∃ q, w' = ((wc.setRow pb X).setCell ⟨rb, 1, none⟩ v).drewN q) : ∃ q, w' = ((W.setRow pb X).setCell ⟨rb, 1, none⟩ v).drewN q := by
  obtain ⟨q, rfl⟩ := h
  subst hW
  exact ⟨q1 + q, World.drewN_drewN ((W.setRow pb X).setCell ⟨rb, 1, none⟩ v) q1 q⟩
theorem info5 : (Ybaf.prog.info? 5).map (·.size) = some 1 := by kernel_rfl

set_option maxHeartbeats 4000000 in
set_option maxRecDepth 100000 in
/-- No chunk sizes were given. -/
theorem read_none (rb db dl dc pos k : Nat) (ca : Option Addr) (cc : Nat) (fail : Bool) (pm : Addr) (pb po pl pc : Nat) (D : Nat → Int) (cur : List Value) (t : TypeId) (w : World) (hpl : 0 < pl) (hplc : pl ≤ pc) (hdl : dl ≤ 1073741824) (hdc : dl ≤ dc) (hpos : pos < dl) (hp2 : pl ≤ 1073741824)
    (hR : Rd w rb db dl dc pos k ca 0 cc fail pm) (hD : Bytes w db dl D) (h1 : rb ≠ pb) (hcur : w.heap[pb]? = some (.cells cur.toArray t (0, 0))) (hfit : po + pl ≤ cur.length)
    (m : Nat) (hm : m = min pl (dl - pos)) :
    Calls Ybaf.prog 36 #[.pointer (some ⟨rb, 0, none⟩), .slice (some ⟨pb, po, none⟩) pl pc] w fun e w' => e = .returned (.tuple #[.int .i64 (m : Int), .nilIface]) ∧ ∃ q, w' = ((w.setRow pb (splice cur po (vals D pos m)).toArray).setCell ⟨rb, 1, none⟩ (.int .i64 ((pos + m : Nat) : Int))).drewN q := by
  obtain ⟨c0, c1, c2, c3, c4, c5, fz⟩ := hR
  have hp : ((pl : Int) == 0) = false := by rw [beq_eq_false_iff_ne]; omega
  have hq : ¬ (dl : Int) ≤ (pos : Int) := by omega
  have hm0 : 0 < m := by omega
  have g1 : (0 : Int) ≤ (m : Int) := by omega
  have g2 : (m : Int) ≤ (pl : Int) := by omega
  have g3 : (m : Int) ≤ (pc : Int) := by omega
  have g4 : (0 : Int) ≤ (pos : Int) := by omega
  have g5 : (pos : Int) ≤ (pos : Int) + (m : Int) := by omega
  have g6 : (pos : Int) + (m : Int) ≤ (dc : Int) := by omega
  have g7 : IntKind.i64.wrap ((pos : Int) + (m : Int)) = (pos : Int) + (m : Int) := by rw [IntKind.wrap_i64]; omega
  have g8 : ((pos : Int) + (m : Int)).toNat = pos + m := by omega
  have g9 : ¬ dc = pos := by omega
  have g10 : pos + m - pos = m := by omega
  have hb1 : ¬ pb = rb := fun e => h1 e.symm
  have hcA : ∀ N X, ((w.drewN N).setRow pb X).cell? ⟨rb, 1, none⟩ = some (.int .i64 (pos : Int)) := fun N X => (cell_setRow _ _ _ _ h1).trans c1
  have hfA : ∀ N X, ((w.drewN N).setRow pb X).frozen? ⟨rb, 1, none⟩ = false := fun N X => (frozen_setRow _ _ _ _ h1).trans (fz 1)
  by_cases hr : (dl : Int) - (pos : Int) < (pl : Int)
  · have hdm : (dl : Int) - (pos : Int) = (m : Int) := by omega
    clear hm
    go_enter Ybaf.func36, Ybaf.ntmps36
    go_wp2
    go_quiet (fail)
    go_wp2
    go_quiet (fail)
    go_wp2
    go_region_held3 (fun w' => w'.cell? ⟨rb, 0, none⟩ = some (.slice (some ⟨db, 0, none⟩) dl dc) ∧ w'.cell? ⟨rb, 1, none⟩ = some (.int .i64 (pos : Int)))
      (first | exact ⟨c0, c1⟩ | exact ⟨(cell_setRow _ _ _ _ h1).trans c0, (cell_setRow _ _ _ _ h1).trans c1⟩)
      ((refine step_copy_row (by rfl) _ _ 23 23 (by rfl) 5 Ybaf.underlying23 info5 pb po m pc ⟨db, pos, none⟩ m (dc - pos) (by rfl) (by rfl) cur t (by exact hcur) (vals D pos m) (by rw [vals_length]; simp) (by intro j v hj; obtain ⟨hjm, rfl⟩ := vals_get _ _ _ _ _ hj; rw [addr_add]; exact hD.1 (pos + j) (by omega)) (by rw [vals_length]; omega) (vals_one _ _ _) ?_))
    go_wp2
    go_ret2
    exact ⟨rfl, _, rfl⟩
  · obtain rfl : m = pl := by omega
    clear hm
    go_enter Ybaf.func36, Ybaf.ntmps36
    go_wp2
    go_quiet (fail)
    go_wp2
    go_quiet (fail)
    go_wp2
    go_region_held3 (fun w' => w'.cell? ⟨rb, 0, none⟩ = some (.slice (some ⟨db, 0, none⟩) dl dc) ∧ w'.cell? ⟨rb, 1, none⟩ = some (.int .i64 (pos : Int)))
      (first | exact ⟨c0, c1⟩ | exact ⟨(cell_setRow _ _ _ _ h1).trans c0, (cell_setRow _ _ _ _ h1).trans c1⟩)
      ((refine step_copy_row (by rfl) _ _ 23 23 (by rfl) 5 Ybaf.underlying23 info5 pb po m pc ⟨db, pos, none⟩ m (dc - pos) (by rfl) (by rfl) cur t (by exact hcur) (vals D pos m) (by rw [vals_length]; simp) (by intro j v hj; obtain ⟨hjm, rfl⟩ := vals_get _ _ _ _ _ hj; rw [addr_add]; exact hD.1 (pos + j) (by omega)) (by rw [vals_length]; omega) (vals_one _ _ _) ?_))
    go_wp2
    go_ret2
    exact ⟨rfl, _, rfl⟩

set_option maxHeartbeats 4000000 in
set_option maxRecDepth 100000 in
/-- Chunk sizes were given. -/
theorem read_chunk (rb db dl dc pos k cb co cl cc : Nat) (fail : Bool) (pm : Addr) (pb po pl pc : Nat) (D cz : Nat → Int) (cur : List Value) (t : TypeId) (w : World) (hpl : 0 < pl) (hplc : pl ≤ pc) (hdl : dl ≤ 1073741824) (hdc : dl ≤ dc) (hpos : pos < dl) (hp2 : pl ≤ 1073741824) (hk : k ≤ 1073741824) (hcl : 0 < cl) (hcl2 : cl ≤ 1073741824)
    (hR : Rd w rb db dl dc pos k (some ⟨cb, co, none⟩) cl cc fail pm) (hD : Bytes w db dl D) (hC : ∀ i, i < cl → w.cell? ⟨cb, co + i, none⟩ = some (B8 (cz i))) (hz : ∀ i, 0 ≤ cz i ∧ cz i < 256) (h1 : rb ≠ pb) (h3 : db ≠ rb) (hcur : w.heap[pb]? = some (.cells cur.toArray t (0, 0))) (hfit : po + pl ≤ cur.length) :
    Calls Ybaf.prog 36 #[.pointer (some ⟨rb, 0, none⟩), .slice (some ⟨pb, po, none⟩) pl pc] w fun e w' => ∃ m : Nat, 0 < m ∧ m ≤ pl ∧ pos + m ≤ dl ∧ e = .returned (.tuple #[.int .i64 (m : Int), .nilIface]) ∧ ∃ q, w' = (((w.setCell ⟨rb, 3, none⟩ (.int .i64 ((k : Int) + 1))).setRow pb (splice cur po (vals D pos m)).toArray).setCell ⟨rb, 1, none⟩ (.int .i64 ((pos + m : Nat) : Int))).drewN q := by
  obtain ⟨c0, c1, c2, c3, c4, c5, fz⟩ := hR
  have hp : ((pl : Int) == 0) = false := by rw [beq_eq_false_iff_ne]; omega
  have hq : ¬ (dl : Int) ≤ (pos : Int) := by omega
  have hcl3 : (0 : Int) < (cl : Int) := by omega
  have hcl4 : ¬ (cl : Int) = 0 := by omega
  obtain ⟨j, hj, hjl⟩ : ∃ j : Nat, (k : Int) % (cl : Int) = (j : Int) ∧ j < cl := ⟨k % cl, by omega, Nat.mod_lt _ hcl⟩
  have hj2 : (j : Int) < (cl : Int) := by omega
  have hj3 : (0 : Int) ≤ (j : Int) := by omega
  have cj := hC j hjl
  have hzj := hz j
  clear hC
  have hk0 : (0 : Int) ≤ (k : Int) := by omega
  obtain ⟨x, hx⟩ : ∃ x, cz j = x := ⟨_, rfl⟩
  rw [hx] at cj hzj
  clear hx
  obtain ⟨hz1, hz2⟩ := hzj
  go_enter Ybaf.func36, Ybaf.ntmps36
  go_wp2
  go_quiet (fail)
  go_wp2
  go_quiet (fail)
  go_upto_if 66 with fail
  go_cut [6] (fun s6 w' => ∃ n1 : Nat, 0 < n1 ∧ n1 ≤ pl ∧ s6 = .int .i64 (n1 : Int) ∧ ∃ q, w' = (w.setCell ⟨rb, 3, none⟩ (.int .i64 ((k : Int) + 1))).drewN q)
  case first =>
    by_cases hx : 1 + x < (pl : Int)
    · obtain ⟨y, hy⟩ : ∃ y : Nat, 1 + x = (y : Int) := ⟨(1 + x).toNat, by omega⟩
      go_wp2_with fail
      go_meet
      case rel => exact ⟨y, by omega, by omega, by rw [hy], _, rfl⟩
    · go_wp2_with fail
      go_meet
      case rel => exact ⟨pl, hpl, Nat.le_refl _, rfl, _, rfl⟩
  case rest =>
    obtain ⟨n1, hn0, hn1, rfl, q1, hq1⟩ := hcut
    have HW : Hid (wc = (w.setCell ⟨rb, 3, none⟩ (.int .i64 ((k : Int) + 1))).drewN q1) := hq1
    clear hq1
    have d0 : wc.cell? ⟨rb, 0, none⟩ = some (.slice (some ⟨db, 0, none⟩) dl dc) := by rw [HW.out]; exact (World.cell?_setCell_other _ _ _ _ (by simp)).trans c0
    have d1 : wc.cell? ⟨rb, 1, none⟩ = some (.int .i64 (pos : Int)) := by rw [HW.out]; exact (World.cell?_setCell_other _ _ _ _ (by simp)).trans c1
    have df : wc.frozen? ⟨rb, 1, none⟩ = false := by rw [HW.out]; simpa using fz 1
    have dcur : wc.heap[pb]? = some (.cells cur.toArray t (0, 0)) := by rw [HW.out]; exact (Below.heap_setCell w _ _ pb (fun e => h1 e.symm)).trans hcur
    have dD : Bytes wc db dl D := ⟨fun i hi => by rw [HW.out]; exact (World.cell?_of_block (Below.heap_setCell w _ _ db h3)).trans (hD.1 i hi), hD.2⟩
    clear c0 c1 c2 c3 c4 c5 cj hj hcur hD fz
    obtain ⟨m, hm⟩ : ∃ m : Nat, m = min n1 (dl - pos) := ⟨_, rfl⟩
    have hm0 : 0 < m := by omega
    have g1 : (0 : Int) ≤ (m : Int) := by omega
    have g2 : (m : Int) ≤ (n1 : Int) := by omega
    have g3 : (m : Int) ≤ (pc : Int) := by omega
    have g4 : (0 : Int) ≤ (pos : Int) := by omega
    have g5 : (pos : Int) ≤ (pos : Int) + (m : Int) := by omega
    have g6 : (pos : Int) + (m : Int) ≤ (dc : Int) := by omega
    have g7 : IntKind.i64.wrap ((pos : Int) + (m : Int)) = (pos : Int) + (m : Int) := by rw [IntKind.wrap_i64]; omega
    have g8 : ((pos : Int) + (m : Int)).toNat = pos + m := by omega
    have g9 : ¬ dc = pos := by omega
    have g10 : pos + m - pos = m := by omega
    have hb1 : ¬ pb = rb := fun e => h1 e.symm
    have hcA : ∀ N X, ((wc.drewN N).setRow pb X).cell? ⟨rb, 1, none⟩ = some (.int .i64 (pos : Int)) := fun N X => (cell_setRow _ _ _ _ h1).trans d1
    have hfA : ∀ N X, ((wc.drewN N).setRow pb X).frozen? ⟨rb, 1, none⟩ = false := fun N X => (frozen_setRow _ _ _ _ h1).trans df
    by_cases hr : (dl : Int) - (pos : Int) < (n1 : Int)
    · have hdm : (dl : Int) - (pos : Int) = (m : Int) := by omega
      clear hm
      go_wp2
      go_quiet (fail)
      go_wp2
      go_region_held3 (fun w' => w'.cell? ⟨rb, 0, none⟩ = some (.slice (some ⟨db, 0, none⟩) dl dc) ∧ w'.cell? ⟨rb, 1, none⟩ = some (.int .i64 (pos : Int)))
        (first | exact ⟨d0, d1⟩ | exact ⟨(cell_setRow _ _ _ _ h1).trans d0, (cell_setRow _ _ _ _ h1).trans d1⟩)
        ((refine step_copy_row (by rfl) _ _ 23 23 (by rfl) 5 Ybaf.underlying23 info5 pb po m pc ⟨db, pos, none⟩ m (dc - pos) (by rfl) (by rfl) cur t (by exact dcur) (vals D pos m) (by rw [vals_length]; simp) (by intro j v hj; obtain ⟨hjm, rfl⟩ := vals_get _ _ _ _ _ hj; rw [addr_add]; exact dD.1 (pos + j) (by omega)) (by rw [vals_length]; omega) (vals_one _ _ _) ?_))
      go_wp2
      go_ret2
      exact ⟨m, by omega, by omega, by omega, rfl, fin_drew _ _ _ _ _ _ HW.out ⟨_, rfl⟩⟩
    · obtain rfl : m = n1 := by omega
      clear hm
      go_wp2
      go_quiet (fail)
      go_wp2
      go_region_held3 (fun w' => w'.cell? ⟨rb, 0, none⟩ = some (.slice (some ⟨db, 0, none⟩) dl dc) ∧ w'.cell? ⟨rb, 1, none⟩ = some (.int .i64 (pos : Int)))
        (first | exact ⟨d0, d1⟩ | exact ⟨(cell_setRow _ _ _ _ h1).trans d0, (cell_setRow _ _ _ _ h1).trans d1⟩)
        ((refine step_copy_row (by rfl) _ _ 23 23 (by rfl) 5 Ybaf.underlying23 info5 pb po m pc ⟨db, pos, none⟩ m (dc - pos) (by rfl) (by rfl) cur t (by exact dcur) (vals D pos m) (by rw [vals_length]; simp) (by intro j v hj; obtain ⟨hjm, rfl⟩ := vals_get _ _ _ _ _ hj; rw [addr_add]; exact dD.1 (pos + j) (by omega)) (by rw [vals_length]; omega) (vals_one _ _ _) ?_))
      go_wp2
      go_ret2
      exact ⟨m, by omega, by omega, by omega, rfl, fin_drew _ _ _ _ _ _ HW.out ⟨_, rfl⟩⟩
end Go.Proofs.YbulkdkcwFmt
