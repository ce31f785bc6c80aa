import Derived.Test.YbulkdkciDoorReads
import Derived.Test.YbulkdkciDoorUntil
import Derived.Tactics
import Derived.Tactics2
import Derived.WalkSpells
import Derived.StillTactics
import Derived.OwnWalk
import Derived.Laws.Pointers
import Derived.Laws.ResultCell
import Derived.LoopTactic
import Derived.Deep.RegionHeld3
import Derived.Deep.RegionLaw
import Derived.Deep.AppendLies
import Derived.Deep.DrawnRows
import Derived.Deep.DeepCutAuto
import Derived.WalkSmall
import Derived.Deep.Light
namespace Go.Proofs.YbulkdkciDoor
open Go.RowKit
attribute [local go_sem ↓] Go.wp_at_zero Go.wp_at_succ

set_option maxHeartbeats 4000000 in
set_option maxRecDepth 100000 in
theorem parse_short (ad : Option Addr) (n c : Nat) (et : TypeId) (ev : Value) (w : World) (hn : n < 12)
    (he : w.cell? ⟨0, 0, none⟩ = some (.iface et ev)) :
    Calls Ybad.prog 4 #[.slice ad n c] w fun e w' => e = .returned (.tuple #[.agg #[.int .u32 0, .int .u32 0, .slice none 0 0, .slice none 0 0], .iface et ev]) ∧ Below w.heap.size w w' := by
  have hlt := World.block_lt_of_cell? w _ he
  have hn' : (n : Int) < 12 := by omega
  go_enter Ybad.func4, Ybad.ntmps4
  go_wp2
  go_region
  go_wp2
  exact bodyPost_ret (v := .tuple #[.agg #[.int .u32 0, .int .u32 0, .slice none 0 0, .slice none 0 0], .iface et ev]) (by simp [results, Ybad.results4, go_sem]) rfl ⟨rfl, Below.drew ((Below.refl _ _).alloc (Nat.le_refl _) _)⟩

/-- Block g's first n cells hold the bytes z 0, z 1, ... -/
def Bytes (w : World) (g n : Nat) (z : Nat → Int) : Prop := (∀ i, i < n → w.cell? ⟨g, i, none⟩ = some (.int .u8 (z i))) ∧ ∀ i, 0 ≤ z i ∧ z i < 256
theorem Bytes.drewN {w : World} {g n : Nat} {z : Nat → Int} (h : Bytes w g n z) (q : Nat) : Bytes (w.drewN q) g n z := h
theorem Bytes.drew {w : World} {g n : Nat} {z : Nat → Int} (h : Bytes w g n z) : Bytes w.drew g n z := h
theorem Bytes.alloc {w : World} {g n : Nat} {z : Nat → Int} (h : Bytes w g n z) (o : Obj) : Bytes (w.alloc o) g n z := ⟨fun i hi => cell?_alloc_old o (h.1 i hi), h.2⟩
theorem Bytes.setCell {w : World} {g n : Nat} {z : Nat → Int} (h : Bytes w g n z) (a : Addr) (ha : a.block ≠ g) (v : Value) : Bytes (w.setCell a v) g n z :=
  ⟨fun i hi => by rw [World.cell?_of_block (Below.heap_setCell w a v g (fun e => ha e.symm))]; exact h.1 i hi, h.2⟩
theorem Bytes.below {w w' : World} {g n B : Nat} {z : Nat → Int} (h : Bytes w g n z) (hb : Below B w w') (hg : g < B) : Bytes w' g n z :=
  ⟨fun i hi => by rw [hb.cell (p := ⟨g, i, none⟩) hg]; exact h.1 i hi, h.2⟩

theorem u32_at {g n : Nat} {z : Nat → Int} {w : World} (H : Bytes w g n z) (o m c : Nat) (hm : 4 ≤ m) (ho : o + 4 ≤ n) :
    Calls Ybad.prog 7 #[.agg #[], .slice (some ⟨g, o, none⟩) m c] w fun e w' => e = .returned (.int .u32 (be32 (z o) (z (o + 1)) (z (o + 2)) (z (o + 3)))) ∧ ∃ q, w' = (w.alloc (.cells #[] 39)).drewN q :=
  u32_calls g o m c _ _ _ _ w hm (H.2 _).1 (H.2 _).2 (H.2 _).1 (H.2 _).2 (H.2 _).1 (H.2 _).2 (H.2 _).1 (H.2 _).2 (H.1 _ (by omega)) (H.1 _ (by omega)) (H.1 _ (by omega)) (H.1 _ (by omega))
theorem u16_at {g n : Nat} {z : Nat → Int} {w : World} (H : Bytes w g n z) (o m c : Nat) (hm : 2 ≤ m) (ho : o + 2 ≤ n) :
    Calls Ybad.prog 8 #[.agg #[], .slice (some ⟨g, o, none⟩) m c] w fun e w' => e = .returned (.int .u16 (be16 (z o) (z (o + 1)))) ∧ ∃ q, w' = (w.alloc (.cells #[] 39)).drewN q :=
  u16_calls g o m c _ _ w hm (H.2 _).1 (H.2 _).2 (H.2 _).1 (H.2 _).2 (H.1 _ (by omega)) (H.1 _ (by omega))

/-- Block sb is a box of four cells, none of them frozen. -/
def Box (w : World) (sb : Nat) (a b c d : Value) : Prop :=
  w.cell? ⟨sb, 0, none⟩ = some a ∧ w.cell? ⟨sb, 1, none⟩ = some b ∧ w.cell? ⟨sb, 2, none⟩ = some c ∧ w.cell? ⟨sb, 3, none⟩ = some d ∧ ∀ i, w.frozen? ⟨sb, i, none⟩ = false
section
variable {w : World} {sb : Nat} {a b c d : Value}
theorem Box.new (w : World) (a b c d : Value) (t : TypeId) : Box (w.alloc (.cells #[a, b, c, d] t)) w.heap.size a b c d :=
  ⟨by simp [go_sem], by simp [go_sem], by simp [go_sem], by simp [go_sem], fun i => by simp [go_sem]⟩
theorem Box.new' (w : World) (a b c d : Value) (t : TypeId) (sb : Nat) (hs : sb = w.heap.size) : Box (w.alloc (.cells #[a, b, c, d] t)) sb a b c d := hs ▸ Box.new w a b c d t
theorem Box.lt (h : Box w sb a b c d) : sb < w.heap.size := World.block_lt_of_cell? w _ h.1
theorem Box.drewN (h : Box w sb a b c d) (q : Nat) : Box (w.drewN q) sb a b c d := h
theorem Box.drew (h : Box w sb a b c d) : Box w.drew sb a b c d := h
theorem Box.of_block {w' : World} (h : Box w sb a b c d) (e : w'.heap[sb]? = w.heap[sb]?) : Box w' sb a b c d :=
  ⟨by rw [World.cell?_of_block (w := w) e]; exact h.1, by rw [World.cell?_of_block (w := w) e]; exact h.2.1, by rw [World.cell?_of_block (w := w) e]; exact h.2.2.1, by rw [World.cell?_of_block (w := w) e]; exact h.2.2.2.1, fun i => by rw [World.frozen?_of_block (w := w) e]; exact h.2.2.2.2 i⟩
theorem Box.alloc (h : Box w sb a b c d) (o : Obj) : Box (w.alloc o) sb a b c d := h.of_block (Below.heap_alloc w o sb h.lt)
theorem Box.far (h : Box w sb a b c d) (p : Addr) (hp : p.block ≠ sb) (v : Value) : Box (w.setCell p v) sb a b c d := h.of_block (Below.heap_setCell w p v sb (fun e => hp e.symm))
theorem Box.grown {w' : World} {row : Option Nat} (h : Box w sb a b c d) (hg : w.grownBy w' row) (hr : some sb ≠ row) : Box w' sb a b c d := h.of_block (hg.block sb h.lt hr)
theorem Box.set0 (h : Box w sb a b c d) (v : Value) : Box (w.setCell ⟨sb, 0, none⟩ v) sb v b c d :=
  ⟨World.cell?_setCell_same _ _ _ h.1, by rw [World.cell?_setCell_other _ _ _ _ (by simp)]; exact h.2.1, by rw [World.cell?_setCell_other _ _ _ _ (by simp)]; exact h.2.2.1, by rw [World.cell?_setCell_other _ _ _ _ (by simp)]; exact h.2.2.2.1, fun i => by simpa using h.2.2.2.2 i⟩
theorem Box.set1 (h : Box w sb a b c d) (v : Value) : Box (w.setCell ⟨sb, 1, none⟩ v) sb a v c d :=
  ⟨by rw [World.cell?_setCell_other _ _ _ _ (by simp)]; exact h.1, World.cell?_setCell_same _ _ _ h.2.1, by rw [World.cell?_setCell_other _ _ _ _ (by simp)]; exact h.2.2.1, by rw [World.cell?_setCell_other _ _ _ _ (by simp)]; exact h.2.2.2.1, fun i => by simpa using h.2.2.2.2 i⟩
theorem Box.set2 (h : Box w sb a b c d) (v : Value) : Box (w.setCell ⟨sb, 2, none⟩ v) sb a b v d :=
  ⟨by rw [World.cell?_setCell_other _ _ _ _ (by simp)]; exact h.1, by rw [World.cell?_setCell_other _ _ _ _ (by simp)]; exact h.2.1, World.cell?_setCell_same _ _ _ h.2.2.1, by rw [World.cell?_setCell_other _ _ _ _ (by simp)]; exact h.2.2.2.1, fun i => by simpa using h.2.2.2.2 i⟩
theorem Box.set3 (h : Box w sb a b c d) (v : Value) : Box (w.setCell ⟨sb, 3, none⟩ v) sb a b c v :=
  ⟨by rw [World.cell?_setCell_other _ _ _ _ (by simp)]; exact h.1, by rw [World.cell?_setCell_other _ _ _ _ (by simp)]; exact h.2.1, by rw [World.cell?_setCell_other _ _ _ _ (by simp)]; exact h.2.2.1, World.cell?_setCell_same _ _ _ h.2.2.2.1, fun i => by simpa using h.2.2.2.2 i⟩
end

theorem Bytes.grown {w w' : World} {g n : Nat} {z : Nat → Int} {row : Option Nat} (h : Bytes w g n z) (hg : w.grownBy w' row) (hl : g < w.heap.size) (hr : some g ≠ row) : Bytes w' g n z :=
  ⟨fun i hi => by rw [hg.cell_far ⟨g, i, none⟩ hl hr]; exact h.1 i hi, h.2⟩

theorem wrap_nat (k : Nat) (h : k < 65536) : IntKind.i64.wrap (k : Int) = k := by rw [IntKind.wrap_i64]; omega
theorem heap_new_at (w : World) (o : Obj) (N : Nat) (h : N = w.heap.size) : (w.alloc o).heap[N]? = some o := h ▸ heap_alloc_new w o
theorem own_drewN {w : World} {B e size n : Nat} {v : Value} {xs : List Value} (h : w.ownsRow B e size v n xs) (q : Nat) : (w.drewN q).ownsRow B e size v n xs := h
theorem own_setCell {w : World} {B e size n : Nat} {v : Value} {xs : List Value} (h : w.ownsRow B e size v n xs) (a : Addr) (u : Value) (ha : v.ownBlock ≠ some a.block) : (w.setCell a u).ownsRow B e size v n xs :=
  h.kept (row := some a.block) ⟨rfl, rfl, rfl, by simp [World.setCell], fun k _ hk => Below.heap_setCell w a u k (fun e => hk (by rw [e]))⟩ (.inr ha)
theorem own_base {w : World} {B B' e size n : Nat} {v : Value} {xs : List Value} (h : w.ownsRow B e size v n xs) (hb : B' ≤ B) : w.ownsRow B' e size v n xs := by
  refine ⟨h.1, ?_⟩
  rcases h.2 with h2 | ⟨g, cap, cur, hv, hg, r⟩
  · exact .inl h2
  · exact .inr ⟨g, cap, cur, hv, Nat.le_trans hb hg, r⟩
/-- The cells of the first k gap blocks. -/
def gapCells (z : Nat → Int) : Nat → List Value
  | 0 => []
  | k + 1 => gapCells z k ++ [.int .u16 (be16 (z (12 + 4 * k)) (z (12 + 4 * k + 1))), .int .u16 (be16 (z (12 + (4 * k + 2))) (z (12 + (4 * k + 2) + 1)))]
/-- The cells of the first k duplicates, behind ng gap blocks. -/
def dupCells (z : Nat → Int) (ng : Nat) : Nat → List Value
  | 0 => []
  | k + 1 => dupCells z ng k ++ [.int .u32 (be32 (z (12 + 4 * (ng + k))) (z (12 + 4 * (ng + k) + 1)) (z (12 + 4 * (ng + k) + 2)) (z (12 + 4 * (ng + k) + 3)))]

theorem info34 : (Ybad.prog.info? 34).map (fun i => (i.zero, i.size, i.bytes)) = some (some (.agg #[.int .u16 0, .int .u16 0]), 2, 4) := by kernel_rfl
theorem info22 : (Ybad.prog.info? 22).map (fun i => (i.zero, i.size, i.bytes)) = some (some (.int .u32 0), 1, 4) := by kernel_rfl

abbrev zeroSack : Value := .agg #[.int .u32 0, .int .u32 0, .slice none 0 0, .slice none 0 0]
/-- What parseSack leaves: the refusal, or the parts. -/
def Parsed (z : Nat → Int) (n ng nd : Nat) (er : Value) (w : World) (e : Ending) (w' : World) : Prop :=
  Below w.heap.size w w' ∧
  ((n < 12 + 4 * (ng + nd) ∧ e = .returned (.tuple #[zeroSack, er])) ∨
   (12 + 4 * (ng + nd) ≤ n ∧ ∃ ga gc da dc, e = .returned (.tuple #[.agg #[.int .u32 (be32 (z 0) (z 1) (z 2) (z 3)), .int .u32 (be32 (z 4) (z 5) (z 6) (z 7)), .slice ga ng gc, .slice da nd dc], .nilIface]) ∧
     w'.ownsRow w.heap.size 34 2 (.slice ga ng gc) ng (gapCells z ng) ∧ w'.ownsRow w.heap.size 22 1 (.slice da nd dc) nd (dupCells z ng nd) ∧ (ng = 0 → ga = none ∧ gc = 0) ∧ (nd = 0 → da = none ∧ dc = 0)))

set_option maxHeartbeats 4000000 in
set_option maxRecDepth 100000 in
theorem parse_long (g n c : Nat) (z : Nat → Int) (ng nd : Nat) (et : TypeId) (ev : Value) (w : World) (hn : 12 ≤ n) (hnc : n ≤ c) (hm : n ≤ 9223372036854775807) (H : Bytes w g n z)
    (hng : Hid (be16 (z 8) (z 9) = (ng : Int))) (hnd : Hid (be16 (z 10) (z 11) = (nd : Int))) (bng : ng < 65536) (bnd : nd < 65536) (he : w.cell? ⟨0, 0, none⟩ = some (.iface et ev)) :
    Calls Ybad.prog 4 #[.slice (some ⟨g, 0, none⟩) n c] w fun e w' => Parsed z n ng nd (.iface et ev) w e w' := by
  have hn' : ¬ (n : Int) < 12 := by omega
  have hn4 : (4 : Int) ≤ n := by omega
  have hn8 : (8 : Int) ≤ n := by omega
  have hn10 : (10 : Int) ≤ n := by omega
  have hnc4 : (n : Int) ≤ c := by omega
  have hc4 : ¬ c = 4 := by omega
  have hc8 : ¬ c = 8 := by omega
  have hc10 : ¬ c = 10 := by omega
  have hgl : g < w.heap.size := World.block_lt_of_cell? w _ (H.1 0 (by omega))
  have H0 : Bytes (w.alloc (Obj.cells #[Value.int IntKind.u32 0, Value.int IntKind.u32 0, Value.slice none 0 0, Value.slice none 0 0] 29)) g n z := H.alloc _
  go_enter Ybad.func4, Ybad.ntmps4
  go_wp2
  go_cut [4] (fun s4 w3 => ∃ sb, s4 = .pointer (some ⟨sb, 0, none⟩) ∧ w.heap.size + 1 ≤ sb ∧ Below (w.heap.size + 1) (w.alloc (Obj.cells #[Value.int IntKind.u32 0, Value.int IntKind.u32 0, Value.slice none 0 0, Value.slice none 0 0] 29)) w3 ∧ Box w3 sb (.int .u32 (be32 (z 0) (z 1) (z 2) (z 3))) (.int .u32 (be32 (z 4) (z 5) (z 6) (z 7))) (.slice none 0 0) (.slice none 0 0))
  case first =>
    go_region_held3 (fun w' => Bytes w' g n z) (with_reducible (repeat (first | assumption | refine Bytes.drewN ?_ _ | refine Bytes.drew ?_ | refine Bytes.alloc ?_ _ | refine Bytes.setCell ?_ _ (by dsimp only; omega) _)))
      (first | (go_at_call 7; refine (u32_at (by with_reducible assumption) _ _ _ (by omega) (by omega)).mono ?_; rintro e w' ⟨rfl, q, rfl⟩))
    all_goals
      go_wp2_with fail
      go_meet
      case rel =>
        go_light
        refine ⟨_, rfl, by omega, ?_, ?_⟩
        · repeat (first | with_reducible exact Below.refl _ _ | with_reducible refine below_drewN ?_ _ | with_reducible refine Below.drew ?_ | ((with_reducible refine Below.alloc ?_ ?_ _); rotate_left; (simp <;> omega)) | ((with_reducible refine Below.setCell ?_ ?_ _); rotate_left; (dsimp only; omega)))
        · with_reducible (repeat (first | (refine Box.new' _ _ _ _ _ _ _ ?_; (simp; done)) | refine Box.set3 (d := .slice none 0 0) ?_ _ | refine Box.set2 (c := .slice none 0 0) ?_ _ | refine Box.set1 (b := .int .u32 0) ?_ _ | refine Box.set0 (a := .int .u32 0) ?_ _ | refine Box.drewN ?_ _ | refine Box.drew ?_ | refine Box.alloc ?_ _))
  case rest =>
    obtain ⟨sb, rfl, hsb, hbl, hbox⟩ := hcut
    have H1 : Bytes wc g n z := H0.below hbl (by omega)
    have hsz : w.heap.size + 1 ≤ wc.heap.size := by have := hbl.size; simpa using this
    clear H0
    go_wp2
    go_cut [5, 6] (fun s5 s6 w4 => s5 = .int .i64 (ng : Int) ∧ s6 = .int .i64 (nd : Int) ∧ Below wc.heap.size wc w4)
    case first =>
      go_region_held3 (fun w' => Bytes w' g n z) (with_reducible (repeat (first | assumption | refine Bytes.drewN ?_ _ | refine Bytes.drew ?_ | refine Bytes.alloc ?_ _ | refine Bytes.setCell ?_ _ (by dsimp only; omega) _)))
        (first | (go_at_call 8; refine (u16_at (by with_reducible assumption) _ _ _ (by omega) (by omega)).mono ?_; rintro e w' ⟨rfl, q, rfl⟩))
      all_goals
        go_wp2_with fail
        go_meet
        case rel =>
          go_light
          refine ⟨by rw [hng.out, wrap_nat ng bng], by rw [hnd.out, wrap_nat nd bnd], ?_⟩
          repeat (first | with_reducible exact Below.refl _ _ | with_reducible refine below_drewN ?_ _ | with_reducible refine Below.drew ?_ | ((with_reducible refine Below.alloc ?_ ?_ _); rotate_left; (simp <;> omega)))
    case rest =>
      rename_i wb
      obtain ⟨rfl, rfl, hb4⟩ := hcut
      have H2 : Bytes wc g n z := H1.below hb4 (by omega)
      have hbl2 := hbl.trans (hb4.mono hsz)
      have hbox2 : Box wc sb _ _ _ _ := hbox.of_block (hb4.block sb hbox.lt)
      clear H1 hbl hbox hb4
      have hsz2 : w.heap.size + 1 ≤ wc.heap.size := by have := hbl2.size; simpa using this
      have hres : Box wc w.heap.size (.int .u32 0) (.int .u32 0) (.slice none 0 0) (.slice none 0 0) := (Box.new w _ _ _ _ 29).of_block (hbl2.block w.heap.size (by omega))
      have he2 : wc.cell? ⟨0, 0, none⟩ = some (.iface et ev) := by
        have hlt := World.block_lt_of_cell? w _ he
        rw [hbl2.cell (p := ⟨0, 0, none⟩) (by dsimp only at hlt ⊢; omega)]; exact cell?_alloc_old _ he
      have hbw : Below w.heap.size w wc := ((Below.refl _ w).alloc (Nat.le_refl _) _).trans (hbl2.mono (by omega))
      by_cases hmal : ((n - 12 : Nat) : Int) < 4 * ((ng : Int) + nd)
      · have k0 := (hres.set0 (.int .u32 0)).1
        have k1 := ((hres.set0 (.int .u32 0)).set1 (.int .u32 0)).2.1
        have k2 := (((hres.set0 (.int .u32 0)).set1 (.int .u32 0)).set2 (.slice none 0 0)).2.2.1
        have k3 := ((((hres.set0 (.int .u32 0)).set1 (.int .u32 0)).set2 (.slice none 0 0)).set3 (.slice none 0 0)).2.2.2.1
        obtain ⟨r0, r1, r2, r3, rf⟩ := hres
        go_wp2
        all_goals
          go_region
          go_wp2
          refine bodyPost_ret (v := .tuple #[zeroSack, .iface et ev]) (by simp [results, Ybad.results4, go_sem, k0, k1, k2, k3]) rfl ⟨?_, Or.inl ⟨by omega, rfl⟩⟩
          go_light
          repeat (first | with_reducible exact hbw | with_reducible refine Below.drew ?_ | ((with_reducible refine Below.setCell ?_ ?_ _); rotate_left; (dsimp only; omega)))
      · go_upto_region 5 with fail
        go_cut [0] (fun s0 w5 => w5 = wc ∧ ∃ oo, s0 = .slice (some ⟨g, oo, none⟩) (n - 12) (c - 12) ∧ (¬ c = 12 → oo = 12))
        case first =>
          go_wp2_with fail
          all_goals
            go_meet
            case rel =>
              go_light
              first | exact ⟨rfl, 12, rfl, fun _ => rfl⟩ | (rename_i h; subst h; exact ⟨rfl, 0, rfl, fun h => absurd rfl h⟩)
        case rest =>
          obtain ⟨rfl, oo, rfl, hoo⟩ := hcut
          have hoo' : Hid (¬ c = 12 → oo = 12) := hoo
          clear hoo
          go_wp2
          go_loopw [44] (fun i w' => ∃ k : Nat, k ≤ ng ∧ i = .int .i64 k ∧ ∃ ga gc, Box w' sb (.int .u32 (be32 (z 0) (z 1) (z 2) (z 3))) (.int .u32 (be32 (z 4) (z 5) (z 6) (z 7))) (.slice ga k gc) (.slice none 0 0) ∧ w'.ownsRow (sb + 1) 34 2 (.slice ga k gc) k (gapCells z k) ∧ Below (w.heap.size + 1) (w.alloc (Obj.cells #[Value.int IntKind.u32 0, Value.int IntKind.u32 0, Value.slice none 0 0, Value.slice none 0 0] 29)) w' ∧ (k = 0 → ga = none ∧ gc = 0)) (fun i _ => ng - (intOf i).toNat)
          case atStart => exact ⟨0, Nat.zero_le _, rfl, none, 0, hbox2, World.ownsRow_nil _ _ _ _, hbl2, fun _ => ⟨rfl, rfl⟩⟩
          case round =>
            obtain ⟨k, hk, rfl, ga, gc, kbox, kown, kbl, knil⟩ := hrel
            by_cases hlt : k < ng
            · have hc12 : ¬ c = 12 := by omega
              obtain rfl : oo = 12 := hoo'.out hc12
              have HB : Bytes wr g n z := ((H.alloc _).below kbl (by omega))
              have kc2 := kbox.2.2.1
              have kf2 := kbox.2.2.2.2 2
              have sblt := kbox.lt
              have s1 : (0 : Int) ≤ 4 * (k : Int) := by omega
              have s0 : (0 : Int) ≤ 4 * (k : Int) + 2 := by omega
              have s2 : 4 * (k : Int) ≤ ((n - 12 : Nat) : Int) := by omega
              have s3 : ((n - 12 : Nat) : Int) ≤ ((c - 12 : Nat) : Int) := by omega
              have s4 : 4 * (k : Int) + 2 ≤ ((n - 12 : Nat) : Int) := by omega
              have s5 : ¬ c - 12 = 4 * k := by omega
              have s6 : ¬ c - 12 = 4 * k + 2 := by omega
              have e1 : IntKind.i64.wrap (4 * (k : Int)) = 4 * (k : Int) := by rw [IntKind.wrap_i64]; omega
              have e2 : IntKind.i64.wrap (4 * (k : Int) + 2) = 4 * (k : Int) + 2 := by rw [IntKind.wrap_i64]; omega
              have e3 : (4 * (k : Int)).toNat = 4 * k := by omega
              have e4 : (4 * (k : Int) + 2).toNat = 4 * k + 2 := by omega
              go_wp2
              obtain ⟨i0, hi0, hz0, hz1, hz2⟩ := info_parts info34
              refine wp_region_until 19 20 (fun w' => Bytes w' g n z ∧ w'.cell? ⟨sb, 2, none⟩ = some (.slice ga k gc)) (by kernel_rfl) (by kernel_rfl) ⟨HB.drew, kc2⟩ (fun hHeld => ?_)
              refine wpAnyT_take (i := 0) (some 47) (v := ?v0) rfl rfl (by kernel_rfl) (by kernel_rfl) (by kernel_rfl) (by kernel_rfl) (fun _ _ _ h => h) (Or.inl ⟨by rfl, ?y0⟩) (by with_reducible assumption) ?r0
              case y0 => (intro w hSw; (try dsimp only at hSw); go_simp <;> with_reducible rfl)
              simp only [Act.put, List.setIfInBounds_toArray, List.set_cons_zero, List.set_cons_succ]
              refine wpAnyT_take (i := 1) (some 48) (v := ?v1) rfl rfl (by kernel_rfl) (by kernel_rfl) (by kernel_rfl) (by kernel_rfl) (fun _ _ _ h => h) (Or.inl ⟨by rfl, ?y1⟩) (by with_reducible assumption) ?r1
              case y1 => (intro w hSw; (try dsimp only at hSw); go_simp <;> with_reducible rfl)
              simp only [Act.put, List.setIfInBounds_toArray, List.set_cons_zero, List.set_cons_succ]
              refine wpAnyT_take (i := 2) (some 49) (v := ?v2) rfl rfl (by kernel_rfl) (by kernel_rfl) (by kernel_rfl) (by kernel_rfl) (fun _ _ _ h => h) (Or.inl ⟨by rfl, ?y2⟩) (by with_reducible assumption) ?r2
              case y2 => (intro w hSw; (try dsimp only at hSw); go_simp <;> with_reducible rfl)
              simp only [Act.put, List.setIfInBounds_toArray, List.set_cons_zero, List.set_cons_succ]
              refine wpAnyT_take (i := 3) (some 50) (v := ?v3) rfl rfl (by kernel_rfl) (by kernel_rfl) (by kernel_rfl) (by kernel_rfl) (fun _ _ _ h => h) (Or.inl ⟨by rfl, ?y3⟩) (by with_reducible assumption) ?r3
              case y3 => (intro w hSw; (try dsimp only at hSw); go_simp <;> with_reducible rfl)
              simp only [Act.put, List.setIfInBounds_toArray, List.set_cons_zero, List.set_cons_succ]
              refine wpAnyT_take (i := 4) (some 51) (v := ?v4) rfl rfl (by kernel_rfl) (by kernel_rfl) (by kernel_rfl) (by kernel_rfl) (fun _ _ _ h => h) (Or.inl ⟨by rfl, ?y4⟩) (by with_reducible assumption) ?r4
              case y4 => (intro w hSw; (try dsimp only at hSw); go_simp <;> with_reducible rfl)
              simp only [Act.put, List.setIfInBounds_toArray, List.set_cons_zero, List.set_cons_succ]
              refine wpAnyT_take (i := 5) (some 52) (v := ?v5) rfl rfl (by kernel_rfl) (by kernel_rfl) (by kernel_rfl) (by kernel_rfl) (fun _ _ _ h => h) (Or.inl ⟨by rfl, ?y5⟩) (by with_reducible assumption) ?r5
              case y5 => (intro w hSw; (try dsimp only at hSw); go_simp <;> with_reducible rfl)
              simp only [Act.put, List.setIfInBounds_toArray, List.set_cons_zero, List.set_cons_succ]
              refine wpAnyT_take (i := 6) (some 53) (v := ?v6) rfl rfl (by kernel_rfl) (by kernel_rfl) (by kernel_rfl) (by kernel_rfl) (fun _ _ _ h => h) (Or.inl ⟨by rfl, ?y6⟩) (by with_reducible assumption) ?r6
              case y6 => (intro w hSw; (try dsimp only at hSw); go_simp <;> with_reducible rfl)
              simp only [Act.put, List.setIfInBounds_toArray, List.set_cons_zero, List.set_cons_succ]
              refine wpAnyT_take (i := 8) (some 55) (v := ?v8) rfl rfl (by kernel_rfl) (by kernel_rfl) (by kernel_rfl) (by kernel_rfl) (fun _ _ _ h => h) (Or.inl ⟨by rfl, ?y8⟩) (by with_reducible assumption) ?r8
              case y8 => (intro w hSw; (try dsimp only at hSw); go_simp <;> with_reducible rfl)
              simp only [Act.put, List.setIfInBounds_toArray, List.set_cons_zero, List.set_cons_succ]
              refine wpAnyT_take (i := 9) (some 56) (v := ?v9) rfl rfl (by kernel_rfl) (by kernel_rfl) (by kernel_rfl) (by kernel_rfl) (fun _ _ _ h => h) (Or.inl ⟨by rfl, ?y9⟩) (by with_reducible assumption) ?r9
              case y9 => (intro w hSw; (try dsimp only at hSw); go_simp <;> with_reducible rfl)
              simp only [Act.put, List.setIfInBounds_toArray, List.set_cons_zero, List.set_cons_succ]
              refine wpAnyT_take (i := 10) (some 57) (v := ?v10) rfl rfl (by kernel_rfl) (by kernel_rfl) (by kernel_rfl) (by kernel_rfl) (fun _ _ _ h => h) (Or.inl ⟨by rfl, ?y10⟩) (by with_reducible assumption) ?r10
              case y10 => (intro w hSw; (try dsimp only at hSw); go_simp <;> with_reducible rfl)
              simp only [Act.put, List.setIfInBounds_toArray, List.set_cons_zero, List.set_cons_succ]
              refine wpAnyT_take (i := 11) (some 58) (v := ?v11) rfl rfl (by kernel_rfl) (by kernel_rfl) (by kernel_rfl) (by kernel_rfl) (fun _ _ _ h => h) (Or.inl ⟨by rfl, ?y11⟩) (by with_reducible assumption) ?r11
              case y11 => (intro w hSw; (try dsimp only at hSw); go_simp <;> with_reducible rfl)
              simp only [Act.put, List.setIfInBounds_toArray, List.set_cons_zero, List.set_cons_succ]
              refine wpAnyT_take (i := 12) (some 59) (v := ?v12) rfl rfl (by kernel_rfl) (by kernel_rfl) (by kernel_rfl) (by kernel_rfl) (fun _ _ _ h => h) (Or.inl ⟨by rfl, ?y12⟩) (by with_reducible assumption) ?r12
              case y12 => (intro w hSw; (try dsimp only at hSw); go_simp <;> with_reducible rfl)
              simp only [Act.put, List.setIfInBounds_toArray, List.set_cons_zero, List.set_cons_succ]
              refine wpAnyT_take (i := 13) (some 60) (v := ?v13) rfl rfl (by kernel_rfl) (by kernel_rfl) (by kernel_rfl) (by kernel_rfl) (fun _ _ _ h => h) (Or.inl ⟨by rfl, ?y13⟩) (by with_reducible assumption) ?r13
              case y13 => (intro w hSw; (try dsimp only at hSw); go_simp <;> with_reducible rfl)
              simp only [Act.put, List.setIfInBounds_toArray, List.set_cons_zero, List.set_cons_succ]
              refine wpAnyT_one (i := 7) (by kernel_rfl) rfl (fun K hK => ?_)
              go_simp
              go_at_call 8
              refine (u16_at (n := n) (z := z) hHeld.1 _ _ _ (by omega) (by omega)).mono ?_
              rintro e w' ⟨rfl, q7, rfl⟩
              go_wp2_with fail
              refine hK.out _ _ ⟨(HB.alloc _).drewN _, by go_keep⟩ (fun hH7 => ?_)
              clear hHeld hK K
              refine wpAnyT_one (i := 14) (by kernel_rfl) rfl (fun K hK => ?_)
              go_simp
              go_at_call 8
              refine (u16_at (n := n) (z := z) hH7.1 _ _ _ (by omega) (by omega)).mono ?_
              rintro e w' ⟨rfl, q14, rfl⟩
              go_wp2_with fail
              refine hK.out _ _ ⟨(((HB.alloc _).drewN _).alloc _).drewN _, by go_keep⟩ (fun hH14 => ?_)
              clear hH7 hK K
              refine wpAnyT_take (i := 15) (some 62) (v := ?v15) rfl rfl (by kernel_rfl) (by kernel_rfl) (by kernel_rfl) (by kernel_rfl) (fun _ _ _ h => h) (Or.inl ⟨by rfl, ?y15⟩) (by with_reducible assumption) ?r15
              case y15 => (intro w hSw; (try dsimp only at hSw); go_simp <;> with_reducible rfl)
              simp only [Act.put, List.setIfInBounds_toArray, List.set_cons_zero, List.set_cons_succ]
              refine wpAnyT_one (i := 16) (by kernel_rfl) rfl (fun K hK => ?_)
              go_simp
              refine hK.out _ _ ⟨((((HB.alloc _).drewN _).alloc _).drewN _).alloc _, by go_keep⟩ (fun hH16 => ?_)
              clear hH14 hK K
              refine wpAnyT_one (i := 17) (by kernel_rfl) rfl (fun K hK => ?_)
              refine step_append_lies _ (by rfl) _ _ _ (by rfl) (sb + 1) 34 i0 _ 2 4 Ybad.underlying26 hi0 hz0 hz1 hz2 rfl (by omega) (.slice ga k gc) k (gapCells z k) (by rfl) ((own_drewN (((own_drewN (kown.alloc _) _).alloc _)) _).alloc _) ⟨wr.heap.size + 1 + 1, 0, none⟩ 1 1 [.int .u16 (be16 (z (12 + 4 * k)) (z (12 + 4 * k + 1))), .int .u16 (be16 (z (12 + (4 * k + 2))) (z (12 + (4 * k + 2) + 1)))] (by rfl) (by rfl) (World.news_of_block (cs := #[.int .u16 (be16 (z (12 + 4 * k)) (z (12 + 4 * k + 1))), .int .u16 (be16 (z (12 + (4 * k + 2))) (z (12 + (4 * k + 2) + 1)))]) (t := 34) (fr := (0, 0)) (by exact heap_new_at _ _ _ (by simp))) (by simp [Value.oneCell']) (by omega) (by unfold maxLen; omega) (by omega) (by simp; omega) (wr.heap.size + 1 + 1 + 1) (by simp) ?_
              intro gg gcap w2 hown2 hgrow hat hlt2
              have hne : (Value.slice ga k gc).ownBlock ≠ some sb := fun e => by have := (kown.lt sb e).1; omega
              have hneg : (Value.slice ga k gc).ownBlock ≠ some g := fun e => by have := (kown.lt g e).1; omega
              have kbox2 := ((((kbox.alloc (.cells #[] 39)).drewN (1 + q7)).alloc (.cells #[] 39)).drewN q14).alloc (.cells #[.int .u16 (be16 (z (12 + 4 * k)) (z (12 + 4 * k + 1))), .int .u16 (be16 (z (12 + (4 * k + 2))) (z (12 + (4 * k + 2) + 1)))] 34)
              have kbox3 := kbox2.grown hgrow (Ne.symm hne)
              refine hK.out _ _ ⟨hH16.1.grown hgrow (World.block_lt_of_cell? _ _ (hH16.1.1 0 (by omega))) (Ne.symm hneg), kbox3.2.2.1⟩ (fun hH17 => ?_)
              clear hH16 hK K
              simp only [Act.put, List.getElem_toArray, List.getElem_cons_zero, List.getElem_cons_succ, List.setIfInBounds_toArray, List.set_cons_zero, List.set_cons_succ]
              refine wpAnyT_take (i := 18) (some 65) (v := ?v18) rfl rfl (by kernel_rfl) (by kernel_rfl) (by kernel_rfl) (by kernel_rfl) (fun _ _ _ h => h) (Or.inl ⟨by rfl, ?y18⟩) (by with_reducible assumption) ?r18
              case y18 => (intro w hSw; (try dsimp only at hSw); go_simp <;> with_reducible rfl)
              simp only [Act.put, List.setIfInBounds_toArray, List.set_cons_zero, List.set_cons_succ]
              have kf3 := kbox3.2.2.2.2 2
              have kc3 := kbox3.2.2.1
              refine wpAnyT_last (by kernel_rfl) rfl (fun K hK => ?_)
              go_simp
              refine hK.out _ _ ?_
              refine wpAnyT_done (by kernel_rfl) ?_ _
              clear hK K
              go_wp2
              have ksz : w.heap.size + 1 ≤ wr.heap.size := by have := kbl.size; simpa using this
              have hgg := (hown2.lt gg rfl).1
              have kb16 := (below_drewN ((below_drewN (kbl.alloc ksz (.cells #[] 39)) (1 + q7)).alloc (by simp; omega) (.cells #[] 39)) q14).alloc (by simp; omega) (.cells #[.int .u16 (be16 (z (12 + 4 * k)) (z (12 + 4 * k + 1))), .int .u16 (be16 (z (12 + (4 * k + 2))) (z (12 + (4 * k + 2) + 1)))] 34)
              have kb17 := kb16.grown hgrow (by simp; omega) (fun kk e => by have := (kown.lt kk e).1; omega)
              go_light
              exact ⟨⟨k + 1, by omega, by go_num, some ⟨gg, 0, none⟩, gcap, kbox3.set2 _, own_setCell hown2 _ _ (fun e => by simp [Value.ownBlock] at e; omega), kb17.setCell (by dsimp only; omega) _, fun h => by omega⟩, by simp [intOf]; omega⟩
            · obtain rfl : ng = k := by omega
              have gsz : w.heap.size + 1 ≤ wr.heap.size := by have := kbl.size; simpa using this
              have gne : ∀ kk, (Value.slice ga ng gc).ownBlock = some kk → sb + 1 ≤ kk ∧ kk < wr.heap.size := kown.lt
              obtain ⟨WG, hWG⟩ : ∃ m, wr.heap.size = m := ⟨_, rfl⟩
              have HWG : Hid (wr.heap.size = WG) := hWG
              rw [hWG] at gne gsz
              have gsb : sb < WG := by have := kbox.lt; omega
              clear hWG
              go_wp2
              go_loopw [68] (fun i w' => ∃ k : Nat, k ≤ nd ∧ i = .int .i64 k ∧ ∃ da dc, Box w' sb (.int .u32 (be32 (z 0) (z 1) (z 2) (z 3))) (.int .u32 (be32 (z 4) (z 5) (z 6) (z 7))) (.slice ga ng gc) (.slice da k dc) ∧ w'.ownsRow WG 22 1 (.slice da k dc) k (dupCells z ng k) ∧ w'.ownsRow (sb + 1) 34 2 (.slice ga ng gc) ng (gapCells z ng) ∧ Below (w.heap.size + 1) (w.alloc (Obj.cells #[Value.int IntKind.u32 0, Value.int IntKind.u32 0, Value.slice none 0 0, Value.slice none 0 0] 29)) w' ∧ (k = 0 → da = none ∧ dc = 0) ∧ WG ≤ w'.heap.size) (fun i _ => nd - (intOf i).toNat)
              case atStart => exact ⟨0, Nat.zero_le _, rfl, none, 0, kbox, World.ownsRow_nil _ _ _ _, kown, kbl, fun _ => ⟨rfl, rfl⟩, by rw [HWG.out]; exact Nat.le_refl _⟩
              case round =>
                clear kbox kown kbl HWG
                obtain ⟨k, hk, rfl, da, dc, kbox, kown, gown, kbl, dnil, dsz⟩ := hrel
                by_cases hlt : k < nd
                · have hc12 : ¬ c = 12 := by omega
                  obtain rfl : oo = 12 := hoo'.out hc12
                  have HB : Bytes wr g n z := ((H.alloc _).below kbl (by omega))
                  have kc2 := kbox.2.2.2.1
                  have sblt := kbox.lt
                  have s1 : (0 : Int) ≤ 4 * ((ng : Int) + (k : Int)) := by omega
                  have s2 : 4 * ((ng : Int) + (k : Int)) ≤ ((n - 12 : Nat) : Int) := by omega
                  have s3 : ((n - 12 : Nat) : Int) ≤ ((c - 12 : Nat) : Int) := by omega
                  have s5 : ¬ c - 12 = 4 * (ng + k) := by omega
                  have e0 : IntKind.i64.wrap ((ng : Int) + (k : Int)) = (ng : Int) + (k : Int) := by rw [IntKind.wrap_i64]; omega
                  have e1 : IntKind.i64.wrap (4 * ((ng : Int) + (k : Int))) = 4 * ((ng : Int) + (k : Int)) := by rw [IntKind.wrap_i64]; omega
                  have e3 : (4 * ((ng : Int) + (k : Int))).toNat = 4 * (ng + k) := by omega
                  obtain ⟨i0, hi0, hz0, hz1, hz2⟩ := info_parts info22
                  go_wp2
                  refine wp_region_until 13 14 (fun w' => Bytes w' g n z ∧ w'.cell? ⟨sb, 3, none⟩ = some (.slice da k dc)) (by kernel_rfl) (by kernel_rfl) ⟨HB.drew, kc2⟩ (fun hHeld => ?_)
                  refine wpAnyT_take (i := 0) (some 71) (v := ?b0) rfl rfl (by kernel_rfl) (by kernel_rfl) (by kernel_rfl) (by kernel_rfl) (fun _ _ _ h => h) (Or.inl ⟨by rfl, ?p0⟩) (by with_reducible assumption) ?s0
                  case p0 => (intro w hSw; (try dsimp only at hSw); go_simp <;> with_reducible rfl)
                  simp only [Act.put, List.setIfInBounds_toArray, List.set_cons_zero, List.set_cons_succ]
                  refine wpAnyT_take (i := 1) (some 72) (v := ?b1) rfl rfl (by kernel_rfl) (by kernel_rfl) (by kernel_rfl) (by kernel_rfl) (fun _ _ _ h => h) (Or.inl ⟨by rfl, ?p1⟩) (by with_reducible assumption) ?s1
                  case p1 => (intro w hSw; (try dsimp only at hSw); go_simp <;> with_reducible rfl)
                  simp only [Act.put, List.setIfInBounds_toArray, List.set_cons_zero, List.set_cons_succ]
                  refine wpAnyT_take (i := 2) (some 73) (v := ?b2) rfl rfl (by kernel_rfl) (by kernel_rfl) (by kernel_rfl) (by kernel_rfl) (fun _ _ _ h => h) (Or.inl ⟨by rfl, ?p2⟩) (by with_reducible assumption) ?s2
                  case p2 => (intro w hSw; (try dsimp only at hSw); go_simp <;> with_reducible rfl)
                  simp only [Act.put, List.setIfInBounds_toArray, List.set_cons_zero, List.set_cons_succ]
                  refine wpAnyT_take (i := 3) (some 74) (v := ?b3) rfl rfl (by kernel_rfl) (by kernel_rfl) (by kernel_rfl) (by kernel_rfl) (fun _ _ _ h => h) (Or.inl ⟨by rfl, ?p3⟩) (by with_reducible assumption) ?s3
                  case p3 => (intro w hSw; (try dsimp only at hSw); go_simp <;> with_reducible rfl)
                  simp only [Act.put, List.setIfInBounds_toArray, List.set_cons_zero, List.set_cons_succ]
                  refine wpAnyT_take (i := 4) (some 75) (v := ?b4) rfl rfl (by kernel_rfl) (by kernel_rfl) (by kernel_rfl) (by kernel_rfl) (fun _ _ _ h => h) (Or.inl ⟨by rfl, ?p4⟩) (by with_reducible assumption) ?s4
                  case p4 => (intro w hSw; (try dsimp only at hSw); go_simp <;> with_reducible rfl)
                  simp only [Act.put, List.setIfInBounds_toArray, List.set_cons_zero, List.set_cons_succ]
                  refine wpAnyT_take (i := 5) (some 76) (v := ?b5) rfl rfl (by kernel_rfl) (by kernel_rfl) (by kernel_rfl) (by kernel_rfl) (fun _ _ _ h => h) (Or.inl ⟨by rfl, ?p5⟩) (by with_reducible assumption) ?s5
                  case p5 => (intro w hSw; (try dsimp only at hSw); go_simp <;> with_reducible rfl)
                  simp only [Act.put, List.setIfInBounds_toArray, List.set_cons_zero, List.set_cons_succ]
                  refine wpAnyT_take (i := 6) (some 77) (v := ?b6) rfl rfl (by kernel_rfl) (by kernel_rfl) (by kernel_rfl) (by kernel_rfl) (fun _ _ _ h => h) (Or.inl ⟨by rfl, ?p6⟩) (by with_reducible assumption) ?s6
                  case p6 => (intro w hSw; (try dsimp only at hSw); go_simp <;> with_reducible rfl)
                  simp only [Act.put, List.setIfInBounds_toArray, List.set_cons_zero, List.set_cons_succ]
                  refine wpAnyT_take (i := 7) (some 78) (v := ?b7) rfl rfl (by kernel_rfl) (by kernel_rfl) (by kernel_rfl) (by kernel_rfl) (fun _ _ _ h => h) (Or.inl ⟨by rfl, ?p7⟩) (by with_reducible assumption) ?s7
                  case p7 => (intro w hSw; (try dsimp only at hSw); go_simp <;> with_reducible rfl)
                  simp only [Act.put, List.setIfInBounds_toArray, List.set_cons_zero, List.set_cons_succ]
                  refine wpAnyT_take (i := 8) (some 79) (v := ?b8) rfl rfl (by kernel_rfl) (by kernel_rfl) (by kernel_rfl) (by kernel_rfl) (fun _ _ _ h => h) (Or.inl ⟨by rfl, ?p8⟩) (by with_reducible assumption) ?s8
                  case p8 => (intro w hSw; (try dsimp only at hSw); go_simp <;> with_reducible rfl)
                  simp only [Act.put, List.setIfInBounds_toArray, List.set_cons_zero, List.set_cons_succ]
                  refine wpAnyT_one (i := 9) (by kernel_rfl) rfl (fun K hK => ?_)
                  go_simp
                  go_at_call 7
                  refine (u32_at (n := n) (z := z) hHeld.1 _ _ _ (by omega) (by omega)).mono ?_
                  rintro e w' ⟨rfl, q9, rfl⟩
                  go_wp2_with fail
                  refine hK.out _ _ ⟨(HB.alloc _).drewN _, by go_keep⟩ (fun hH9 => ?_)
                  clear hHeld hK K
                  refine wpAnyT_one (i := 10) (by kernel_rfl) rfl (fun K hK => ?_)
                  go_simp
                  refine hK.out _ _ ⟨((HB.alloc _).drewN _).alloc _, by go_keep⟩ (fun hH10 => ?_)
                  clear hH9 hK K
                  refine wpAnyT_one (i := 11) (by kernel_rfl) rfl (fun K hK => ?_)
                  refine step_append_lies _ (by rfl) _ _ _ (by rfl) WG 22 i0 _ 1 4 Ybad.underlying27 hi0 hz0 hz1 hz2 rfl (by omega) (.slice da k dc) k (dupCells z ng k) (by rfl) ((own_drewN (kown.alloc _) _).alloc _) ⟨wr.heap.size + 1, 0, none⟩ 1 1 [.int .u32 (be32 (z (12 + 4 * (ng + k))) (z (12 + 4 * (ng + k) + 1)) (z (12 + 4 * (ng + k) + 2)) (z (12 + 4 * (ng + k) + 3)))] (by rfl) (by rfl) (World.news_of_block (cs := #[.int .u32 (be32 (z (12 + 4 * (ng + k))) (z (12 + 4 * (ng + k) + 1)) (z (12 + 4 * (ng + k) + 2)) (z (12 + 4 * (ng + k) + 3)))]) (t := 22) (fr := (0, 0)) (by exact heap_new_at _ _ _ (by simp))) (by simp [Value.oneCell']) (by omega) (by unfold maxLen; omega) (by omega) (by simp; omega) (wr.heap.size + 1 + 1) (by simp) ?_
                  intro gg gcap w2 hown2 hgrow hat hlt2
                  have hne : (Value.slice da k dc).ownBlock ≠ some sb := fun e => by have := (kown.lt sb e).1; omega
                  have hneg : (Value.slice da k dc).ownBlock ≠ some g := fun e => by have := (kown.lt g e).1; omega
                  have kbox2 := ((kbox.alloc (.cells #[] 39)).drewN (1 + q9)).alloc (.cells #[.int .u32 (be32 (z (12 + 4 * (ng + k))) (z (12 + 4 * (ng + k) + 1)) (z (12 + 4 * (ng + k) + 2)) (z (12 + 4 * (ng + k) + 3)))] 22)
                  have kbox3 := kbox2.grown hgrow (Ne.symm hne)
                  refine hK.out _ _ ⟨hH10.1.grown hgrow (World.block_lt_of_cell? _ _ (hH10.1.1 0 (by omega))) (Ne.symm hneg), kbox3.2.2.2.1⟩ (fun hH11 => ?_)
                  clear hH10 hK K
                  simp only [Act.put, List.getElem_toArray, List.getElem_cons_zero, List.getElem_cons_succ, List.setIfInBounds_toArray, List.set_cons_zero, List.set_cons_succ]
                  refine wpAnyT_take (i := 12) (some 83) (v := ?b12) rfl rfl (by kernel_rfl) (by kernel_rfl) (by kernel_rfl) (by kernel_rfl) (fun _ _ _ h => h) (Or.inl ⟨by rfl, ?p12⟩) (by with_reducible assumption) ?s12
                  case p12 => (intro w hSw; (try dsimp only at hSw); go_simp <;> with_reducible rfl)
                  simp only [Act.put, List.setIfInBounds_toArray, List.set_cons_zero, List.set_cons_succ]
                  have kf3 := kbox3.2.2.2.2 3
                  have kc3 := kbox3.2.2.2.1
                  refine wpAnyT_last (by kernel_rfl) rfl (fun K hK => ?_)
                  go_simp
                  refine hK.out _ _ ?_
                  refine wpAnyT_done (by kernel_rfl) ?_ _
                  clear hK K
                  go_wp2
                  have ksz : w.heap.size + 1 ≤ wr.heap.size := by omega
                  have hgg := (hown2.lt gg rfl).1
                  have kb16 := (below_drewN (kbl.alloc ksz (.cells #[] 39)) (1 + q9)).alloc (by simp; omega) (.cells #[.int .u32 (be32 (z (12 + 4 * (ng + k))) (z (12 + 4 * (ng + k) + 1)) (z (12 + 4 * (ng + k) + 2)) (z (12 + 4 * (ng + k) + 3)))] 22)
                  have kb17 := kb16.grown hgrow (by simp; omega) (fun kk e => by have := (kown.lt kk e).1; omega)
                  have gown2 := ((own_drewN (gown.alloc (.cells #[] 39)) (1 + q9)).alloc (.cells #[.int .u32 (be32 (z (12 + 4 * (ng + k))) (z (12 + 4 * (ng + k) + 1)) (z (12 + 4 * (ng + k) + 2)) (z (12 + 4 * (ng + k) + 3)))] 22)).kept hgrow (by
                      by_cases h0 : (Value.slice ga ng gc).ownBlock = none
                      · exact .inl h0
                      · right; intro e; obtain ⟨kk, hkk⟩ := Option.ne_none_iff_exists'.1 h0; have := (gne kk hkk).2; have := (kown.lt kk (e ▸ hkk)).1; omega)
                  have hsz17 := hgrow.size
                  go_light
                  exact ⟨⟨k + 1, by omega, by go_num, some ⟨gg, 0, none⟩, gcap, kbox3.set3 _, own_setCell hown2 _ _ (fun e => by simp [Value.ownBlock] at e; omega), own_setCell gown2 _ _ (fun e => by have := (gne sb e).1; omega), kb17.setCell (by dsimp only; omega) _, fun h => by omega, by simp at hsz17 ⊢; omega⟩, by simp [intOf]; omega⟩
                · obtain rfl : nd = k := by omega
                  have hres2 : Box wr w.heap.size (.int .u32 0) (.int .u32 0) (.slice none 0 0) (.slice none 0 0) := (Box.new w _ _ _ _ 29).of_block (kbl.block w.heap.size (by omega))
                  have k0 := (hres2.set0 (.int .u32 (be32 (z 0) (z 1) (z 2) (z 3)))).1
                  have k1 := ((hres2.set0 (.int .u32 (be32 (z 0) (z 1) (z 2) (z 3)))).set1 (.int .u32 (be32 (z 4) (z 5) (z 6) (z 7)))).2.1
                  have k2 := (((hres2.set0 (.int .u32 (be32 (z 0) (z 1) (z 2) (z 3)))).set1 (.int .u32 (be32 (z 4) (z 5) (z 6) (z 7)))).set2 (.slice ga ng gc)).2.2.1
                  have k3 := ((((hres2.set0 (.int .u32 (be32 (z 0) (z 1) (z 2) (z 3)))).set1 (.int .u32 (be32 (z 4) (z 5) (z 6) (z 7)))).set2 (.slice ga ng gc)).set3 (.slice da nd dc)).2.2.2.1
                  have hbw2 : Below w.heap.size w wr := ((Below.refl _ w).alloc (Nat.le_refl _) _).trans (kbl.mono (by omega))
                  obtain ⟨r0, r1, r2, r3, rf⟩ := hres2
                  obtain ⟨b0, b1, b2, b3, bf⟩ := kbox
                  go_wp2
                  refine bodyPost_ret (v := .tuple #[.agg #[.int .u32 (be32 (z 0) (z 1) (z 2) (z 3)), .int .u32 (be32 (z 4) (z 5) (z 6) (z 7)), .slice ga ng gc, .slice da nd dc], .nilIface]) (by simp [results, Ybad.results4, go_sem, k0, k1, k2, k3]) rfl ⟨?_, Or.inr ⟨by omega, ga, gc, da, dc, rfl, ?_, ?_, knil, dnil⟩⟩
                  · go_light
                    repeat (first | with_reducible exact hbw2 | ((with_reducible refine Below.setCell ?_ ?_ _); rotate_left; (dsimp only; omega)))
                  · go_light
                    repeat (first | with_reducible exact own_base gown (by omega) | ((with_reducible refine own_setCell ?_ _ _ ?_); rotate_left; (intro e; have := (gne _ e).1; dsimp only at this; omega)))
                  · go_light
                    repeat (first | with_reducible exact own_base kown (by omega) | ((with_reducible refine own_setCell ?_ _ _ ?_); rotate_left; (intro e; have := (kown.lt _ e).1; dsimp only at this; omega)))
end Go.Proofs.YbulkdkciDoor
