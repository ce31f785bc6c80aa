import Derived.Test.YbulkdkciDoorParse
import Derived.Laws.CopyOwn
import Derived.Deep.AppendSrc
import Derived.LaidEql
import Derived.Laws.Cover3
namespace Go.Proofs.YbulkdkciDoor
open Go.RowKit
attribute [local go_sem ↓] Go.wp_at_zero Go.wp_at_succ

theorem info5 : (Ybad.prog.info? 5).map (fun i => (i.zero, i.size, i.bytes)) = some (some (.int .u8 0), 1, 1) := by kernel_rfl
/-- A byte as a value. -/
abbrev B8 (x : Int) : Value := .int .u8 x
/-- The header's twelve numbers. -/
def hdr (cum rw ng nd : Int) : List Int :=
  [cum / 16777216, cum / 65536 % 256, cum / 256 % 256, cum % 256, rw / 16777216, rw / 65536 % 256, rw / 256 % 256, rw % 256, ng / 256, ng % 256, nd / 256, nd % 256]
/-- The whole value's numbers: the header, then the tail. -/
def zf (cum rw ng nd : Int) (tz : Nat → Int) (i : Nat) : Int := if i < 12 then (hdr cum rw ng nd).getD i 0 else tz (i - 12)
theorem zf_tail (cum rw ng nd : Int) (tz : Nat → Int) (j : Nat) : zf cum rw ng nd tz (12 + j) = tz j := by
  unfold zf; rw [if_neg (by omega)]; congr 1; omega
theorem zf_bd (cum rw ng nd : Int) (tz : Nat → Int) (c0 : 0 ≤ cum) (c1 : cum < 4294967296) (r0 : 0 ≤ rw) (r1 : rw < 4294967296) (g0 : 0 ≤ ng) (g1 : ng < 65536) (d0 : 0 ≤ nd) (d1 : nd < 65536)
    (ht : ∀ i, 0 ≤ tz i ∧ tz i < 256) (i : Nat) : 0 ≤ zf cum rw ng nd tz i ∧ zf cum rw ng nd tz i < 256 := by
  unfold zf
  split
  · rename_i h
    have : i = 0 ∨ i = 1 ∨ i = 2 ∨ i = 3 ∨ i = 4 ∨ i = 5 ∨ i = 6 ∨ i = 7 ∨ i = 8 ∨ i = 9 ∨ i = 10 ∨ i = 11 := by omega
    rcases this with rfl | rfl | rfl | rfl | rfl | rfl | rfl | rfl | rfl | rfl | rfl | rfl <;> simp [hdr] <;> omega
  · exact ht _
/-- The tail's cells. -/
def tailVals (tz : Nat → Int) (tl : Nat) : List Value := (List.range tl).map fun i => B8 (tz i)
theorem tailVals_length (tz : Nat → Int) (tl : Nat) : (tailVals tz tl).length = tl := by simp [tailVals]
theorem tailVals_get (tz : Nat → Int) (tl j : Nat) (u : Value) (h : (tailVals tz tl)[j]? = some u) : j < tl ∧ u = B8 (tz j) := by
  simp only [tailVals, List.getElem?_map] at h
  by_cases hj : j < tl
  · rw [List.getElem?_range hj] at h; exact ⟨hj, by simpa using h.symm⟩
  · rw [List.getElem?_eq_none (by simpa using Nat.le_of_not_lt hj)] at h; cases h
theorem all_get (cum rw ng nd : Int) (tz : Nat → Int) (tl i : Nat) (h : i < 12 + tl) : ((hdr cum rw ng nd).map B8 ++ tailVals tz tl)[i]? = some (B8 (zf cum rw ng nd tz i)) := by
  unfold zf
  by_cases h12 : i < 12
  · rw [if_pos h12]
    have : i = 0 ∨ i = 1 ∨ i = 2 ∨ i = 3 ∨ i = 4 ∨ i = 5 ∨ i = 6 ∨ i = 7 ∨ i = 8 ∨ i = 9 ∨ i = 10 ∨ i = 11 := by omega
    rcases this with rfl | rfl | rfl | rfl | rfl | rfl | rfl | rfl | rfl | rfl | rfl | rfl <;> simp [hdr]
  · rw [if_neg h12, List.getElem?_append_right (by simp [hdr]; omega)]
    simp only [hdr, List.length_map, List.length_cons, List.length_nil, tailVals, List.getElem?_map]
    rw [List.getElem?_range (by omega)]
    rfl
theorem be32_cum (x : Int) : be32 (x / 16777216) (x / 65536 % 256) (x / 256 % 256) (x % 256) = x := by unfold be32; omega
theorem be16_ng (x : Int) : be16 (x / 256) (x % 256) = x := by unfold be16; omega

/-- append onto a row of bytes of the call's own; what is below the call's own blocks stays as it was. -/
theorem wpList_app8 {w : World} {ops : Array Oper} {rest : List Oper} {o : Oper} {a : Act} {Q : Exit → Act → World → Prop} (w0 : World) (hbl : Below w0.heap.size w0 w) (hgd : o.guard = none) (s x : Operand)
    (ho : o.op = .call { callee := .builtin .append, args := #[s, x], argTypes := #[24, 24] })
    (v : Value) (n : Nat) (xs : List Value) (hs : a.eval s = v) (hown : w.ownsRow w0.heap.size 5 1 v n xs)
    (ad : Addr) (m c : Nat) (news : List Value) (hx : a.eval x = .slice (some ad) m c) (hl : news.length = m) (hnews : ∀ j u, news[j]? = some u → w.cell? (ad.add j) = some u) (h1 : ∀ u ∈ news, u.oneCell' = true)
    (hm : 0 < m) (hbytes : n + m ≤ 140737488355328)
    (h : ∀ g cap w', w'.ownsRow w0.heap.size 5 1 (.slice (some ⟨g, 0, none⟩) (n + m) cap) (n + m) (xs ++ news) → Below w0.heap.size w0 w' → wpList Ybad.prog ops Q rest (a.put o.dst (.slice (some ⟨g, 0, none⟩) (n + m) cap)) w') : wpList Ybad.prog ops Q (o :: rest) a w := by
  obtain ⟨i5, hi5, hz0, hz1, hz2⟩ := info_parts info5
  refine wpList_append_lies _ hgd s x 24 ho w0.heap.size 5 i5 _ 1 1 Ybad.underlying24 hi5 hz0 hz1 hz2 rfl (by omega) v n xs hs hown ad m c news hx (by omega) hnews h1 hm (by unfold maxLen; omega) (by omega) hbl.size _ rfl ?_
  intro g cap w' ho' hg _ _
  exact h g cap w' ho' (hbl.grown hg hbl.size (fun k e => (hown.lt k e).1))

theorem addr_add (b o j : Nat) : (⟨b, o, none⟩ : Addr).add j = ⟨b, o + j, none⟩ := by unfold Addr.add; split <;> simp_all
theorem bytes_of_own {w : World} {B fg cp n : Nat} {xs : List Value} {z : Nat → Int} (h : w.ownsRow B 5 1 (.slice (some ⟨fg, 0, none⟩) n cp) n xs) (hx : ∀ i, i < n → xs[i]? = some (B8 (z i))) (hz : ∀ i, 0 ≤ z i ∧ z i < 256) : Bytes w fg n z :=
  ⟨fun i hi => by
    have := h.cells rfl i _ (hx i hi)
    rw [addr_add, Nat.zero_add] at this
    exact this, hz⟩
theorem cap_of_own {w : World} {B fg cp n : Nat} {xs : List Value} (h : w.ownsRow B 5 1 (.slice (some ⟨fg, 0, none⟩) n cp) n xs) : n ≤ cp ∧ cp ≤ maxLen ∧ B ≤ fg ∧ fg < w.heap.size := by
  obtain ⟨hb, hlt⟩ := h.lt fg rfl
  rcases h.2 with ⟨h, _⟩ | ⟨g, cap, cur, hv, _, _, h1, h2, _⟩
  · cases h
  · cases hv; exact ⟨h1, h2, hb, hlt⟩

theorem run_append_zero (w : World) (ty g n cap : Nat) (ta : Option Addr) (c : Nat) (hn : n ≤ cap) :
    (Builtin.append_ #[24, 24] ty #[.slice (some ⟨g, 0, none⟩) n cap, .slice ta 0 c]).run Ybad.prog w = .ok (.slice (some ⟨g, 0, none⟩) n cap) w := by
  obtain ⟨i5, hi5, hz0, hz1, hz2⟩ := info_parts info5
  have hs : Src Ybad.prog i5.size 24 (.slice ta 0 c) 0 [] w := by
    cases ta with
    | none => exact Src.ofNil w Ybad.underlying24 c
    | some a => exact Src.ofSlice w Ybad.underlying24 a 0 c [] (by simp) (fun j u h => by simp at h) (fun u h => by cases h)
  have h := run_append_room_src (P := Ybad.prog) w 24 24 ty 5 i5 Ybad.underlying24 hi5 g 0 n cap (.slice ta 0 c) 0 [] hs (by omega) (fun j hj => by simp at hj) (fun j hj => by simp at hj)
  simpa [World.setCells] using h

/-- append of whatever tail, an empty or nil one too, onto a row of bytes of the call's own that is not nil. -/
theorem wpList_app8_any {w : World} {ops : Array Oper} {rest : List Oper} {o : Oper} {a : Act} {Q : Exit → Act → World → Prop} (w0 : World) (hbl : Below w0.heap.size w0 w) (hgd : o.guard = none) (s x : Operand)
    (ho : o.op = .call { callee := .builtin .append, args := #[s, x], argTypes := #[24, 24] })
    (fg cp n : Nat) (xs : List Value) (hs : a.eval s = .slice (some ⟨fg, 0, none⟩) n cp) (hown : w.ownsRow w0.heap.size 5 1 (.slice (some ⟨fg, 0, none⟩) n cp) n xs)
    (ta : Option Addr) (m c : Nat) (tz : Nat → Int) (hx : a.eval x = .slice ta m c)
    (hT : m = 0 ∨ 0 < m ∧ ∃ tb tof, ta = some ⟨tb, tof, none⟩ ∧ ∀ i, i < m → w0.cell? ⟨tb, tof + i, none⟩ = some (B8 (tz i))) (hbytes : n + m ≤ 140737488355328)
    (h : ∀ g cap w', w'.ownsRow w0.heap.size 5 1 (.slice (some ⟨g, 0, none⟩) (n + m) cap) (n + m) (xs ++ tailVals tz m) → Below w0.heap.size w0 w' → wpList Ybad.prog ops Q rest (a.put o.dst (.slice (some ⟨g, 0, none⟩) (n + m) cap)) w') : wpList Ybad.prog ops Q (o :: rest) a w := by
  rcases hT with rfl | ⟨h0, tb, tof, rfl, hc⟩
  · have hr := run_append_zero w o.type fg n cp ta c (cap_of_own hown).1
    have h' := h fg cp w (by simpa [tailVals] using hown) hbl
    refine wpList_plain hgd fun K hK => ?_
    unfold Oper.wp execOp
    simp only [ho, resolve, invoke, builtin, Sem.run_bind, Sem.run_pure, Result.andThen_ok, List.map_toArray, List.map_cons, List.map_nil, hs, hx, hr]
    exact hK _ _ h'
  · refine wpList_app8 w0 hbl hgd s x ho _ n xs hs hown ⟨tb, tof, none⟩ m c (tailVals tz m) hx (tailVals_length _ _) ?_ ?_ h0 hbytes h
    · intro j u hu
      obtain ⟨hj, rfl⟩ := tailVals_get _ _ _ _ hu
      have hcj := hc j hj
      rw [addr_add, hbl.cell (p := ⟨tb, tof + j, none⟩) (World.block_lt_of_cell? w0 _ hcj)]
      exact hcj
    · intro u hu
      obtain ⟨_, _, rfl⟩ := List.mem_map.1 hu
      rfl

theorem splice_all (KC cs : List Value) (h : KC.length = cs.length) : splice KC 0 cs = cs := by
  unfold splice
  rw [List.take_zero, List.nil_append, Nat.zero_add, List.drop_of_length_le (by omega), List.append_nil]
theorem bytes_of_block {w : World} {kb m : Nat} {z : Nat → Int} {KC : List Value} (hK : KC.length = m) (h : w.heap[kb]? = some (.cells (splice KC 0 (tailVals z m)).toArray 5 (0, 0))) (hz : ∀ i, 0 ≤ z i ∧ z i < 256) : Bytes w kb m z := by
  rw [splice_all KC _ (by rw [tailVals_length]; exact hK)] at h
  refine ⟨fun i hi => ?_, hz⟩
  rw [cell_of_row w kb i _ 5 (0, 0) h]
  simp only [tailVals, List.getElem?_toArray, List.getElem?_map]
  rw [List.getElem?_range hi]
  rfl
theorem bytes_news {w : World} {fg n m : Nat} {z : Nat → Int} (hb : Bytes w fg n z) (hm : m ≤ n) : ∀ j v, (tailVals z m)[j]? = some v → w.cell? ((⟨fg, 0, none⟩ : Addr).add j) = some v := by
  intro j v hv
  obtain ⟨hj, rfl⟩ := tailVals_get _ _ _ _ hv
  rw [addr_add, Nat.zero_add]
  exact hb.1 j (by omega)
theorem tail_one (z : Nat → Int) (m : Nat) : ∀ v ∈ tailVals z m, v.oneCell' = true := by
  intro u hu
  obtain ⟨_, _, rfl⟩ := List.mem_map.1 hu
  rfl
theorem Bytes.mono {w : World} {g n m : Nat} {z : Nat → Int} (h : Bytes w g n z) (hm : m ≤ n) : Bytes w g m z := ⟨fun i hi => h.1 i (by omega), h.2⟩

theorem comp42 : (Ybad.prog.info? 42).map (·.comparable) = some true := by kernel_rfl
theorem size61 : (Ybad.prog.info? 61).map (·.size) = some 1 := by kernel_rfl
theorem eql_same (pa : Addr) (W : World) : (binOp .eql 31 (.iface 42 (.pointer (some pa))) (.iface 42 (.pointer (some pa)))).run Ybad.prog W = .ok (.bool true) W := by
  obtain ⟨i, hi, hcmp⟩ := Option.map_eq_some_iff.1 comp42
  obtain ⟨j, hj, _⟩ := Option.map_eq_some_iff.1 size61
  exact run_eql_iface_ptr_same W pa Ybad.underlying31 Ybad.underlying42 hi hcmp hj
theorem eql_nil {t e : TypeId} (h : Ybad.prog.underlying t = some (.slice e)) (W : World) : (binOp .eql t (.slice none 0 0) (.slice none 0 0)).run Ybad.prog W = .ok (.bool true) W := by
  simp only [binOp]
  simp [run_equal_slice_nil W t e none 0 0 h]
theorem old_cell {w w' : World} (h : Below w.heap.size w w') {a : Addr} {v : Value} (hc : w.cell? a = some v) : w'.cell? a = some v := by
  rw [h.cell (World.block_lt_of_cell? w a hc)]; exact hc

set_option maxHeartbeats 4000000 in
set_option maxRecDepth 100000 in
theorem law_short (cum rw ng nd cut : Int) (ta : Option Addr) (tl tc : Nat) (tz : Nat → Int) (w : World)
    (c0 : 0 ≤ cum) (c1 : cum < 4294967296) (r0 : 0 ≤ rw) (r1 : rw < 4294967296) (g0 : 0 ≤ ng) (g1 : ng < 65536) (d0 : 0 ≤ nd) (d1 : nd < 65536) (u0 : 0 ≤ cut) (u1 : cut < 256)
    (hl : tl ≤ 1048576) (htz : ∀ i, 0 ≤ tz i ∧ tz i < 256)
    (hT : tl = 0 ∨ 0 < tl ∧ ∃ tb tof, ta = some ⟨tb, tof, none⟩ ∧ ∀ i, i < tl → w.cell? ⟨tb, tof + i, none⟩ = some (B8 (tz i)))
    (pa : Addr) (he : w.cell? ⟨0, 0, none⟩ = some (.iface 42 (.pointer (some pa))))
    (hcut : cut % 4 = 0) :
    Calls Ybad.prog 3 #[.int .u32 cum, .int .u32 rw, .int .u16 ng, .int .u16 nd, .slice ta tl tc, .int .u8 cut] w fun e w' => e = .returned (.bool true) ∧ Below w.heap.size w w' := by
  have hl' : ¬ (1048576 : Int) < (tl : Int) := by omega
  obtain ⟨i5, hi5, hz0, hz1, hz2⟩ := info_parts info5
  obtain ⟨MK, hmk, hMK⟩ : ∃ MK, (Instr.makeSlice 24 (.int .i64 0) (.int .i64 (12 + (tl : Int)))).run Ybad.prog w = .ok (.slice (some ⟨w.heap.size, 0, none⟩) 0 (12 + tl)) (w.alloc MK) ∧ Hid ((w.alloc MK).ownsRow w.heap.size 5 1 (.slice (some ⟨w.heap.size, 0, none⟩) 0 (12 + tl)) 0 []) := by
    have h := run_make (P := Ybad.prog) w 24 5 i5 _ Ybad.underlying24 hi5 hz0 .i64 .i64 0 (12 + (tl : Int)) (by omega) (by omega) (by rw [hz2]; omega) (by omega)
    have e1 : (12 + (tl : Int)).toNat = 12 + tl := by omega
    rw [e1] at h
    exact ⟨_, h, World.ownsRow_made w _ _ (Nat.le_refl _) (by unfold maxLen; omega) (by rw [size_madeCells, hz1])⟩
  have bl0 : Below w.heap.size w (w.alloc MK) := (Below.refl _ _).alloc (Nat.le_refl _) _
  have hT' : Hid (tl = 0 ∨ 0 < tl ∧ ∃ tb tof, ta = some ⟨tb, tof, none⟩ ∧ ∀ i, i < tl → w.cell? ⟨tb, tof + i, none⟩ = some (B8 (tz i))) := hT
  clear hT
  go_enter Ybad.func3, Ybad.ntmps3
  go_upto_region 5 with (at_builtin; refine wpList_app8 w (bl0.alloc (by simp) _) rfl _ _ rfl (.slice (some ⟨w.heap.size, 0, none⟩) 0 (12 + tl)) 0 [] rfl (hMK.out.alloc _) ⟨w.heap.size + 1, 0, none⟩ 4 4 [B8 (cum / 16777216), B8 (cum / 65536 % 256), B8 (cum / 256 % 256), B8 (cum % 256)] rfl rfl (World.news_of_block (cs := #[B8 (cum / 16777216), B8 (cum / 65536 % 256), B8 (cum / 256 % 256), B8 (cum % 256)]) (t := 5) (fr := (0, 0)) (by exact heap_new_at _ _ _ (by simp))) (by simp [Value.oneCell']) (by omega) (by omega) ?_; intro fg1 cp1 w1 hown1 bl1)
  have hown1' : Hid (w1.ownsRow w.heap.size 5 1 (.slice (some ⟨fg1, 0, none⟩) 4 cp1) 4 [B8 (cum / 16777216), B8 (cum / 65536 % 256), B8 (cum / 256 % 256), B8 (cum % 256)]) := hown1
  clear hown1 hMK hmk bl0
  have z1 := bl1.size
  go_upto_region 6 with (at_builtin; refine wpList_app8 w (bl1.alloc z1 _) rfl _ _ rfl (.slice (some ⟨fg1, 0, none⟩) 4 cp1) 4 _ rfl (hown1'.out.alloc _) ⟨w1.heap.size, 0, none⟩ 4 4 [B8 (rw / 16777216), B8 (rw / 65536 % 256), B8 (rw / 256 % 256), B8 (rw % 256)] rfl rfl (World.news_of_block (cs := #[B8 (rw / 16777216), B8 (rw / 65536 % 256), B8 (rw / 256 % 256), B8 (rw % 256)]) (t := 5) (fr := (0, 0)) (by exact heap_new_at _ _ _ (by simp))) (by simp [Value.oneCell']) (by omega) (by omega) ?_; intro fg2 cp2 w2 hown2 bl2)
  have hown2' : Hid (w2.ownsRow w.heap.size 5 1 (.slice (some ⟨fg2, 0, none⟩) 8 cp2) 8 [B8 (cum / 16777216), B8 (cum / 65536 % 256), B8 (cum / 256 % 256), B8 (cum % 256), B8 (rw / 16777216), B8 (rw / 65536 % 256), B8 (rw / 256 % 256), B8 (rw % 256)]) := hown2
  clear hown2 hown1' bl1 z1
  have z2 := bl2.size
  go_upto_region 7 with (at_builtin; refine wpList_app8 w (bl2.alloc z2 _) rfl _ _ rfl (.slice (some ⟨fg2, 0, none⟩) 8 cp2) 8 _ rfl (hown2'.out.alloc _) ⟨w2.heap.size, 0, none⟩ 4 4 [B8 (ng / 256), B8 (ng % 256), B8 (nd / 256), B8 (nd % 256)] rfl rfl (World.news_of_block (cs := #[B8 (ng / 256), B8 (ng % 256), B8 (nd / 256), B8 (nd % 256)]) (t := 5) (fr := (0, 0)) (by exact heap_new_at _ _ _ (by simp))) (by simp [Value.oneCell']) (by omega) (by omega) ?_; intro fg3 cp3 w3 hown3 bl3)
  have hown3' : Hid (w3.ownsRow w.heap.size 5 1 (.slice (some ⟨fg3, 0, none⟩) 12 cp3) 12 ((hdr cum rw ng nd).map B8)) := hown3
  clear hown3 hown2' bl2 z2
  go_upto_region 8 with (at_builtin; refine wpList_app8_any w bl3 rfl _ _ rfl fg3 cp3 12 _ rfl hown3'.out ta tl tc tz rfl hT'.out (by omega) ?_; intro fg cp w4 hown bl)
  clear hown3' bl3
  obtain ⟨hcap, hcm, hfb, hfl⟩ := cap_of_own hown
  have hby : Bytes w4 fg (12 + tl) (zf cum rw ng nd tz) := bytes_of_own hown (all_get cum rw ng nd tz tl) (zf_bd cum rw ng nd tz c0 c1 r0 r1 g0 g1 d0 d1 htz)
  clear hown
  have hc13 : ¬ cp = 0 := by omega
  unfold maxLen at hcm
  obtain ⟨m, hm⟩ : ∃ m : Nat, cut / 4 % 12 = (m : Int) := ⟨(cut / 4 % 12).toNat, by omega⟩
  have hm12 : m < 12 := by omega
  obtain ⟨KC, hmk, hKC⟩ : ∃ KC : List Value, (Instr.makeSlice 24 (.int .i64 (m : Int)) (.int .i64 (m : Int))).run Ybad.prog w4 = .ok (.slice (some ⟨w4.heap.size, 0, none⟩) m m) (w4.alloc (.cells KC.toArray 5)) ∧ Hid (KC.length = m) := by
    have h := run_make (P := Ybad.prog) w4 24 5 i5 _ Ybad.underlying24 hi5 hz0 .i64 .i64 (m : Int) (m : Int) (by omega) (by omega) (by rw [hz2]; omega) (by omega)
    rw [show (m : Int).toNat = m from by omega] at h
    exact ⟨(madeCells (Value.int .u8 0).cells (m * i5.size)).toList, h, by show _ = _; rw [Array.length_toList, size_madeCells, hz1, Nat.mul_one]⟩
  go_upto_region 12 with fail
  go_upto_region 13 with (refine wpList_copy_splice rfl _ _ 24 24 rfl 5 Ybad.underlying24 (by rw [hi5]; exact congrArg some hz1) (some ⟨w4.heap.size, 0, none⟩) (some ⟨fg, 0, none⟩) m m m cp rfl rfl w4.heap.size 0 KC 5 (by exact heap_alloc_new w4 _) (tailVals (zf cum rw ng nd tz) m) (by rw [tailVals_length]; simp) (fun _ => ⟨rfl, _, rfl, by exact bytes_news (hby.alloc _) (by omega)⟩) (by rw [tailVals_length, hKC.out]; omega) (by exact tail_one _ _) w4.heap.size w4 ((Below.refl _ _).alloc (Nat.le_refl _) _) (Nat.le_refl _) ?_; intro w8 HG8 bl8)
  have hkb : Bytes w8 w4.heap.size m (zf cum rw ng nd tz) := bytes_of_block hKC.out HG8.out hby.2
  have hfb8 : Bytes w8 fg m (zf cum rw ng nd tz) := (hby.below bl8 hfl).mono (by omega)
  have blw8 := bl.trans (bl8.mono bl.size)
  have he8 := old_cell blw8 he
  have hkl : w4.heap.size < w8.heap.size := by
    rcases Nat.lt_or_ge w4.heap.size w8.heap.size with h | h
    · exact h
    · have h8 := HG8.out; rw [Array.getElem?_eq_none h] at h8; cases h8
  clear hmk hKC HG8
  go_upto_region 14 with (go_at_call 4; refine (parse_short (some ⟨fg, 0, none⟩) m cp 42 (.pointer (some pa)) _ hm12 he8).mono ?_; rintro e w9 ⟨rfl, bl9⟩)
  have hfb10 : Bytes (w9.alloc (Obj.cells #[Value.int IntKind.u32 0, Value.int IntKind.u32 0, Value.slice none 0 0, Value.slice none 0 0] 29)) fg m (zf cum rw ng nd tz) := (hfb8.below bl9 (Nat.lt_trans hfl hkl)).alloc _
  have hkb10 : Bytes (w9.alloc (Obj.cells #[Value.int IntKind.u32 0, Value.int IntKind.u32 0, Value.slice none 0 0, Value.slice none 0 0] 29)) w4.heap.size m (zf cum rw ng nd tz) := (hkb.below bl9 hkl).alloc _
  have he10 : (w9.alloc (Obj.cells #[Value.int IntKind.u32 0, Value.int IntKind.u32 0, Value.slice none 0 0, Value.slice none 0 0] 29)).cell? ⟨0, 0, none⟩ = some (.iface 42 (.pointer (some pa))) := cell?_alloc_old _ (old_cell bl9 he8)
  have blw9 := blw8.trans (bl9.mono blw8.size)
  have blf : Below w.heap.size w (w9.alloc (Obj.cells #[Value.int IntKind.u32 0, Value.int IntKind.u32 0, Value.slice none 0 0, Value.slice none 0 0] 29)) := blw9.alloc blw9.size _
  have hbox := Box.new w9 (.int .u32 0) (.int .u32 0) (.slice none 0 0) (.slice none 0 0) 29
  obtain ⟨b0, b1, b2, b3, _⟩ := hbox
  have heq := eql_same pa
  have he26 := eql_nil Ybad.underlying26
  have he27 := eql_nil Ybad.underlying27
  clear hby bl bl8 blw8 hkb hfb8 he8 bl9 hfb hcap blw9 he
  go_wp2
  go_loopw [18] (fun i w' => ∃ k : Nat, k ≤ m ∧ i = .int .i64 k ∧ ∃ q, w' = (w9.alloc (Obj.cells #[Value.int IntKind.u32 0, Value.int IntKind.u32 0, Value.slice none 0 0, Value.slice none 0 0] 29)).drewN q) (fun i _ => m - (intOf i).toNat)
  case atStart => exact ⟨0, Nat.zero_le _, rfl, 0, rfl⟩
  case round =>
    obtain ⟨k, hk, rfl, q, rfl⟩ := hrel
    by_cases hlt : k < m
    · have a1 := hfb10.1 k hlt
      have a2 := hkb10.1 k hlt
      have a3 : (k : Int) < (m : Int) := by omega
      go_wp2
      go_quiet (fail)
      go_wp2
      go_light
      exact ⟨⟨k + 1, by omega, by go_num, _, rfl⟩, by simp [intOf]; omega⟩
    · go_wp2
      go_ret
      exact ⟨rfl, below_drewN blf _⟩
end Go.Proofs.YbulkdkciDoor
