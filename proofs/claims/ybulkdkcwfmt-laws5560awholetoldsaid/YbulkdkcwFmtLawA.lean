import Derived.Test.YbulkdkcwFmtFrame
import Derived.Deep.AppendSrc
import Derived.Deep.AppendLies
import Derived.Laws.Cover3
import Derived.Laws.BytesArg
namespace Go.Proofs.YbulkdkcwFmt
open Go.RowKit Go.Stop
attribute [local go_sem ↓] Go.wp_at_zero Go.wp_at_succ

/-- The header's five numbers. -/
def hdr5 (lf ty : Int) : List Int := [lf / 16777216, lf / 65536 % 256, lf / 256 % 256, lf % 256, ty]
/-- The whole stream's numbers: the header, then the body. -/
def df (lf ty : Int) (bz : Nat → Int) (i : Nat) : Int := if i < 5 then (hdr5 lf ty).getD i 0 else bz (i - 5)
theorem df_bd (lf ty : Int) (bz : Nat → Int) (l0 : 0 ≤ lf) (l1 : lf < 4294967296) (t0 : 0 ≤ ty) (t1 : ty < 256) (hb : ∀ i, 0 ≤ bz i ∧ bz i < 256) (i : Nat) : 0 ≤ df lf ty bz i ∧ df lf ty bz i < 256 := by
  unfold df
  split
  · rename_i h
    have : i = 0 ∨ i = 1 ∨ i = 2 ∨ i = 3 ∨ i = 4 := by omega
    rcases this with rfl | rfl | rfl | rfl | rfl <;> simp [hdr5] <;> omega
  · exact hb _
theorem df_get (lf ty : Int) (bz : Nat → Int) (m i : Nat) (h : i < 5 + m) : ((hdr5 lf ty).map B8 ++ vals bz 0 m)[i]? = some (B8 (df lf ty bz i)) := by
  unfold df
  by_cases h5 : i < 5
  · rw [if_pos h5]
    have : i = 0 ∨ i = 1 ∨ i = 2 ∨ i = 3 ∨ i = 4 := by omega
    rcases this with rfl | rfl | rfl | rfl | rfl <;> simp [hdr5]
  · rw [if_neg h5, List.getElem?_append_right (by simp [hdr5]; omega)]
    simp only [hdr5, List.length_map, List.length_cons, List.length_nil, vals, List.getElem?_map]
    rw [List.getElem?_range (by omega)]
    simp
theorem df_be (lf ty : Int) (bz : Nat → Int) : be32 (df lf ty bz 0) (df lf ty bz 1) (df lf ty bz 2) (df lf ty bz 3) = lf := by
  simp [df, hdr5]; unfold be32; omega
theorem df_ty (lf ty : Int) (bz : Nat → Int) : df lf ty bz 4 = ty := by simp [df, hdr5]
theorem heap_new_at (w : World) (o : Obj) (g : Nat) (h : g = w.heap.size) : (w.alloc o).heap[g]? = some o := by subst h; exact heap_new w o

/-- append onto a row of bytes of the call's own; what is below the call's own blocks stays as it was. -/
theorem wpList_app8 {w : World} {ops : Array Oper} {rest : List Oper} {o : Oper} {a : Act} {Q : Exit → Act → World → Prop} (w0 : World) (hbl : Below w0.heap.size w0 w) (hgd : o.guard = none) (s x : Operand)
    (ho : o.op = .call { callee := .builtin .append, args := #[s, x], argTypes := #[23, 23] })
    (v : Value) (n : Nat) (xs : List Value) (hs : a.eval s = v) (hown : w.ownsRow w0.heap.size 5 1 v n xs)
    (ad : Addr) (m c : Nat) (news : List Value) (hx : a.eval x = .slice (some ad) m c) (hl : news.length = m) (hnews : ∀ j u, news[j]? = some u → w.cell? (ad.add j) = some u) (h1 : ∀ u ∈ news, u.oneCell' = true)
    (hm : 0 < m) (hbytes : n + m ≤ 140737488355328)
    (h : ∀ g cap w', w'.ownsRow w0.heap.size 5 1 (.slice (some ⟨g, 0, none⟩) (n + m) cap) (n + m) (xs ++ news) → Below w0.heap.size w0 w' → wpList Ybaf.prog ops Q rest (a.put o.dst (.slice (some ⟨g, 0, none⟩) (n + m) cap)) w') : wpList Ybaf.prog ops Q (o :: rest) a w := by
  obtain ⟨i5, hi5, he⟩ := Option.map_eq_some_iff.1 info5all
  simp only [Prod.mk.injEq] at he
  obtain ⟨hz0, hz1, hz2⟩ := he
  refine wpList_append_lies _ hgd s x 23 ho w0.heap.size 5 i5 _ 1 1 Ybaf.underlying23 hi5 hz0 hz1 hz2 rfl (by omega) v n xs hs hown ad m c news hx (by omega) hnews h1 hm (by unfold maxLen; omega) (by omega) hbl.size _ rfl ?_
  intro g cap w' ho' hg _ _
  exact h g cap w' ho' (hbl.grown hg hbl.size (fun k e => (hown.lt k e).1))

theorem bytes_of_own {w : World} {B fg cp n : Nat} {xs : List Value} {z : Nat → Int} (h : w.ownsRow B 5 1 (.slice (some ⟨fg, 0, none⟩) n cp) n xs) (hx : ∀ i, i < n → xs[i]? = some (B8 (z i))) (hz : ∀ i, 0 ≤ z i ∧ z i < 256) : Bytes w fg n z :=
  ⟨fun i hi => by
    have := h.cells rfl i _ (hx i hi)
    rw [addr_add, Nat.zero_add] at this
    exact this, hz⟩
theorem cap_of_own {w : World} {B fg cp n : Nat} {xs : List Value} (h : w.ownsRow B 5 1 (.slice (some ⟨fg, 0, none⟩) n cp) n xs) : n ≤ cp ∧ cp ≤ maxLen ∧ B ≤ fg ∧ fg < w.heap.size := by
  obtain ⟨hb, hlt⟩ := h.lt fg rfl
  rcases h.2 with ⟨h, _⟩ | ⟨g, cap, cur, hv, _, _, h1, h2, _⟩
  · cases h
  · cases hv; exact ⟨h1, h2, hb, hlt⟩
theorem run_append_zero (w : World) (ty g n cap : Nat) (ta : Option Addr) (c : Nat) (hn : n ≤ cap) :
    (Builtin.append_ #[23, 23] ty #[.slice (some ⟨g, 0, none⟩) n cap, .slice ta 0 c]).run Ybaf.prog w = .ok (.slice (some ⟨g, 0, none⟩) n cap) w := by
  obtain ⟨i5, hi5, he⟩ := Option.map_eq_some_iff.1 info5all
  have hs : Src Ybaf.prog i5.size 23 (.slice ta 0 c) 0 [] w := by
    cases ta with
    | none => exact Src.ofNil w Ybaf.underlying23 c
    | some a => exact Src.ofSlice w Ybaf.underlying23 a 0 c [] (by simp) (fun j u h => by simp at h) (fun u h => by cases h)
  have h := run_append_room_src (P := Ybaf.prog) w 23 23 ty 5 i5 Ybaf.underlying23 hi5 g 0 n cap (.slice ta 0 c) 0 [] hs (by omega) (fun j hj => by simp at hj) (fun j hj => by simp at hj)
  simpa [World.setCells] using h

/-- append of whatever tail, an empty or nil one too, onto a row of bytes of the call's own that is not nil. -/
theorem wpList_app8_any {w : World} {ops : Array Oper} {rest : List Oper} {o : Oper} {a : Act} {Q : Exit → Act → World → Prop} (w0 : World) (hbl : Below w0.heap.size w0 w) (hgd : o.guard = none) (s x : Operand)
    (ho : o.op = .call { callee := .builtin .append, args := #[s, x], argTypes := #[23, 23] })
    (fg cp n : Nat) (xs : List Value) (hs : a.eval s = .slice (some ⟨fg, 0, none⟩) n cp) (hown : w.ownsRow w0.heap.size 5 1 (.slice (some ⟨fg, 0, none⟩) n cp) n xs)
    (ta : Option Addr) (m c : Nat) (tz : Nat → Int) (hx : a.eval x = .slice ta m c)
    (hT : Ck w0 ta m tz) (hbytes : n + m ≤ 140737488355328)
    (h : ∀ g cap w', w'.ownsRow w0.heap.size 5 1 (.slice (some ⟨g, 0, none⟩) (n + m) cap) (n + m) (xs ++ vals tz 0 m) → Below w0.heap.size w0 w' → wpList Ybaf.prog ops Q rest (a.put o.dst (.slice (some ⟨g, 0, none⟩) (n + m) cap)) w') : wpList Ybaf.prog ops Q (o :: rest) a w := by
  rcases hT.1 with rfl | ⟨h0, tb, tof, rfl, hc⟩
  · have hr := run_append_zero w o.type fg n cp ta c (cap_of_own hown).1
    have h' := h fg cp w (by simpa [vals] using hown) hbl
    refine wpList_plain hgd fun K hK => ?_
    unfold Oper.wp execOp
    simp only [ho, resolve, invoke, builtin, Sem.run_bind, Sem.run_pure, Result.andThen_ok, List.map_toArray, List.map_cons, List.map_nil, hs, hx, hr]
    exact hK _ _ h'
  · refine wpList_app8 w0 hbl hgd s x ho _ n xs hs hown ⟨tb, tof, none⟩ m c (vals tz 0 m) hx (vals_length _ _ _) ?_ (vals_one _ _ _) h0 hbytes h
    intro j u hu
    obtain ⟨hj, rfl⟩ := vals_get _ _ _ _ _ hu
    have hcj := hc j hj
    rw [addr_add, hbl.cell (p := ⟨tb, tof + j, none⟩) (World.block_lt_of_cell? w0 _ hcj), Nat.zero_add]
    exact hcj

set_option maxRecDepth 100000 in
/-- errors.New. -/
theorem new_calls (s : ByteArray) (w : World) : Calls Ybaf.prog 4 #[.string s] w fun e w' => e = .returned (.iface 40 (.pointer (some ⟨w.heap.size, 0, none⟩))) ∧ w' = w.alloc (.cells #[.string s] 42) := by
  go_enter Ybaf.func4, Ybaf.ntmps4
  go_wp2
  go_ret
  exact ⟨rfl, rfl⟩

theorem neq_types (vx vy : Value) (w : World) : (binOp .neq 27 (.iface 74 vx) (.iface 40 vy)).run Ybaf.prog w = .ok (.bool true) w := by
  have h : ∀ d : Nat, (Op.equalIn (d + 1) 27 (.iface 74 vx) (.iface 40 vy)).run Ybaf.prog w = .ok false w := fun d => by simp [Op.equalIn, run_underlying Ybaf.underlying27]
  simp only [binOp]
  simp [Op.equal, Op.maxDepth, h 9999]
set_option maxRecDepth 100000 in
/-- zzs5560aother of a wrapped error. -/
theorem other_wrap (b : Nat) (m : Value) (p1 p2 : Addr) (w : World) (c1 : w.cell? ⟨1, 0, none⟩ = some (.iface 40 (.pointer (some p1)))) (c2 : w.cell? ⟨2, 0, none⟩ = some (.iface 40 (.pointer (some p2)))) :
    Calls Ybaf.prog 6 #[.iface 74 (.pointer (some ⟨b, 0, none⟩)), m] w fun e w' => e = .returned (.bool true) ∧ w' = w := by
  have h1 := neq_types
  go_enter Ybaf.func6, Ybaf.ntmps6
  go_wp2
  go_ret
  exact ⟨rfl, rfl⟩

/-- The numbers D p, D (p+1), .. -/
def nums (D : Nat → Int) (p n : Nat) : List Int := (List.range n).map fun i => D (p + i)
theorem nums_length (D : Nat → Int) (p n : Nat) : (nums D p n).length = n := by simp [nums]
theorem nums_getD (D : Nat → Int) (p n i : Nat) (h : i < n) : (nums D p n).getD i 0 = D (p + i) := by simp [nums, List.getD, h]

set_option maxRecDepth 100000 in
/-- bytes.Equal of two slices that hold the same. -/
theorem equal_same (g1 o1 c1 g2 o2 c2 n : Nat) (D : Nat → Int) (p : Nat) (w : World) (h1 : ∀ i, i < n → w.cell? ⟨g1, o1 + i, none⟩ = some (B8 (D (p + i)))) (h2 : ∀ i, i < n → w.cell? ⟨g2, o2 + i, none⟩ = some (B8 (D (p + i)))) :
    Calls Ybaf.prog 8 #[.slice (some ⟨g1, o1, none⟩) n c1, .slice (some ⟨g2, o2, none⟩) n c2] w fun e w' => e = .returned (.bool true) ∧ w' = w := by
  have e1 := run_convert_bytes_arg (P := Ybaf.prog) w 23 5 Ybaf.underlying23 Ybaf.underlying5 g1 o1 n c1 (nums D p n) (nums_length _ _ _) (fun i hi => by rw [nums_getD _ _ _ _ hi]; exact h1 i hi) 9 Ybaf.underlying9
  have e2 := run_convert_bytes_arg (P := Ybaf.prog) w 23 5 Ybaf.underlying23 Ybaf.underlying5 g2 o2 n c2 (nums D p n) (nums_length _ _ _) (fun i hi => by rw [nums_getD _ _ _ _ hi]; exact h2 i hi) 9 Ybaf.underlying9
  go_enter Ybaf.func8, Ybaf.ntmps8
  go_wp2
  go_ret
  exact ⟨by simp, rfl⟩
end Go.Proofs.YbulkdkcwFmt
