import Derived.Test.YbulkdkciDoorLawS
namespace Go.Proofs.YbulkdkciDoor
open Go.RowKit
attribute [local go_sem ↓] Go.wp_at_zero Go.wp_at_succ

theorem zf_lo (cum rw ng nd : Int) (tz : Nat → Int) :
    be32 (zf cum rw ng nd tz 0) (zf cum rw ng nd tz 1) (zf cum rw ng nd tz 2) (zf cum rw ng nd tz 3) = cum ∧ be32 (zf cum rw ng nd tz 4) (zf cum rw ng nd tz 5) (zf cum rw ng nd tz 6) (zf cum rw ng nd tz 7) = rw ∧
    be16 (zf cum rw ng nd tz 8) (zf cum rw ng nd tz 9) = ng ∧ be16 (zf cum rw ng nd tz 10) (zf cum rw ng nd tz 11) = nd :=
  ⟨be32_cum cum, be32_cum rw, be16_ng ng, be16_ng nd⟩
theorem parse_mal (g n c : Nat) (z : Nat → Int) (ng nd : Nat) (et : TypeId) (ev : Value) (w : World) (hn : 12 ≤ n) (hnc : n ≤ c) (hm : n ≤ 9223372036854775807) (H : Bytes w g n z)
    (hng : Hid (be16 (z 8) (z 9) = (ng : Int))) (hnd : Hid (be16 (z 10) (z 11) = (nd : Int))) (bng : ng < 65536) (bnd : nd < 65536) (he : w.cell? ⟨0, 0, none⟩ = some (.iface et ev)) (hmal : n < 12 + 4 * (ng + nd)) :
    Calls Ybad.prog 4 #[.slice (some ⟨g, 0, none⟩) n c] w fun e w' => e = .returned (.tuple #[zeroSack, .iface et ev]) ∧ Below w.heap.size w w' :=
  (parse_long g n c z ng nd et ev w hn hnc hm H hng hnd bng bnd he).mono fun e w' h => by
    obtain ⟨hb, h | h⟩ := h
    · exact ⟨h.2, hb⟩
    · omega

theorem neq_nil {t e : TypeId} (h : Ybad.prog.underlying t = some (.slice e)) (W : World) : (binOp .neq t (.slice none 0 0) (.slice none 0 0)).run Ybad.prog W = .ok (.bool false) W := by
  simp only [binOp]
  simp [run_equal_slice_nil W t e none 0 0 h]
theorem gap_get (z : Nat → Int) (k n : Nat) (h : k < n) : (gapCells z n)[2 * k]? = some (.int .u16 (be16 (z (12 + 4 * k)) (z (12 + 4 * k + 1)))) ∧ (gapCells z n)[2 * k + 1]? = some (.int .u16 (be16 (z (12 + (4 * k + 2))) (z (12 + (4 * k + 2) + 1)))) := by
  have hlen : ∀ n, (gapCells z n).length = 2 * n := by
    intro n
    induction n with
    | zero => rfl
    | succ n ih => simp [gapCells, ih]; omega
  induction n with
  | zero => omega
  | succ n ih =>
    by_cases hk : k < n
    · obtain ⟨h1, h2⟩ := ih hk
      simp only [gapCells]
      rw [List.getElem?_append_left (by rw [hlen]; omega), List.getElem?_append_left (by rw [hlen]; omega)]
      exact ⟨h1, h2⟩
    · obtain rfl : k = n := by omega
      simp only [gapCells]
      rw [List.getElem?_append_right (by rw [hlen]; omega), List.getElem?_append_right (by rw [hlen]; omega), hlen]
      rw [show 2 * k - 2 * k = 0 from by omega, show 2 * k + 1 - 2 * k = 1 from by omega]
      exact ⟨rfl, rfl⟩
theorem dup_get (z : Nat → Int) (ng k n : Nat) (h : k < n) : (dupCells z ng n)[k]? = some (.int .u32 (be32 (z (12 + 4 * (ng + k))) (z (12 + 4 * (ng + k) + 1)) (z (12 + 4 * (ng + k) + 2)) (z (12 + 4 * (ng + k) + 3)))) := by
  have hlen : ∀ n, (dupCells z ng n).length = n := by
    intro n
    induction n with
    | zero => rfl
    | succ n ih => simp [dupCells, ih]
  induction n with
  | zero => omega
  | succ n ih =>
    by_cases hk : k < n
    · simp only [dupCells]
      rw [List.getElem?_append_left (by rw [hlen]; omega)]
      exact ih hk
    · obtain rfl : k = n := by omega
      simp only [dupCells]
      rw [List.getElem?_append_right (by rw [hlen]; omega), hlen, Nat.sub_self]
      rfl

/-- What parseSack hands back of a value that is long enough, cell by cell. -/
def Parts (w : World) (cum rw : Int) (ng nd : Nat) (tz : Nat → Int) (e : Ending) (w' : World) : Prop :=
  ∃ ga gc da dc, e = .returned (.tuple #[.agg #[.int .u32 cum, .int .u32 rw, .slice ga ng gc, .slice da nd dc], .nilIface]) ∧ Below w.heap.size w w' ∧
    (ng = 0 → ga = none ∧ gc = 0) ∧ (nd = 0 → da = none ∧ dc = 0) ∧
    (0 < ng → ∃ b, ga = some ⟨b, 0, none⟩ ∧ ∀ k, k < ng → w'.cell? ⟨b, 2 * k, none⟩ = some (.int .u16 (be16 (tz (4 * k)) (tz (4 * k + 1)))) ∧ w'.cell? ⟨b, 2 * k + 1, none⟩ = some (.int .u16 (be16 (tz (4 * k + 2)) (tz (4 * k + 3))))) ∧
    (0 < nd → ∃ b, da = some ⟨b, 0, none⟩ ∧ ∀ k, k < nd → w'.cell? ⟨b, k, none⟩ = some (.int .u32 (be32 (tz (4 * (ng + k))) (tz (4 * (ng + k) + 1)) (tz (4 * (ng + k) + 2)) (tz (4 * (ng + k) + 3)))))
theorem slice_addr {w : World} {B e size n : Nat} {ga : Option Addr} {gc : Nat} {xs : List Value} (h : w.ownsRow B e size (.slice ga n gc) n xs) (hn : 0 < n) : ∃ b, ga = some ⟨b, 0, none⟩ := by
  obtain ⟨g, cap, hv, _, _⟩ := h.form hn
  cases hv
  exact ⟨g, rfl⟩
theorem parse_ok (g n c : Nat) (cum rw : Int) (ng nd : Nat) (tz : Nat → Int) (et : TypeId) (ev : Value) (w : World) (hn : 12 ≤ n) (hnc : n ≤ c) (hm : n ≤ 9223372036854775807) (H : Bytes w g n (zf cum rw ng nd tz))
    (bng : ng < 65536) (bnd : nd < 65536) (he : w.cell? ⟨0, 0, none⟩ = some (.iface et ev)) (hok : 12 + 4 * (ng + nd) ≤ n) :
    Calls Ybad.prog 4 #[.slice (some ⟨g, 0, none⟩) n c] w fun e w' => Parts w cum rw ng nd tz e w' :=
  (parse_long g n c (zf cum rw ng nd tz) ng nd et ev w hn hnc hm H (zf_lo cum rw ng nd tz).2.2.1 (zf_lo cum rw ng nd tz).2.2.2 bng bnd he).mono fun e w' h => by
    obtain ⟨hb, h | ⟨_, ga, gc, da, dc, he, hg, hd, gn, dn⟩⟩ := h
    · omega
    · refine ⟨ga, gc, da, dc, ?_, hb, gn, dn, ?_, ?_⟩
      · rw [he, (zf_lo cum rw ng nd tz).1, (zf_lo cum rw ng nd tz).2.1]
      · intro h0
        obtain ⟨b, rfl⟩ := slice_addr hg h0
        refine ⟨b, rfl, fun k hk => ?_⟩
        obtain ⟨h1, h2⟩ := gap_get (zf cum rw ng nd tz) k ng hk
        have q1 := hg.cells rfl _ _ h1
        have q2 := hg.cells rfl _ _ h2
        rw [addr_add, Nat.zero_add] at q1 q2
        rw [Nat.add_assoc 12 (4 * k) 1, zf_tail, zf_tail] at q1
        rw [Nat.add_assoc 12 (4 * k + 2) 1, zf_tail, zf_tail] at q2
        exact ⟨q1, q2⟩
      · intro h0
        obtain ⟨b, rfl⟩ := slice_addr hd h0
        refine ⟨b, rfl, fun k hk => ?_⟩
        have q1 := hd.cells rfl _ _ (dup_get (zf cum rw ng nd tz) ng k nd hk)
        rw [addr_add, Nat.zero_add] at q1
        rw [Nat.add_assoc 12 (4 * (ng + k)) 1, Nat.add_assoc 12 (4 * (ng + k)) 2, Nat.add_assoc 12 (4 * (ng + k)) 3, zf_tail, zf_tail, zf_tail, zf_tail] at q1
        exact q1

theorem be16_tail {w : World} {tb tof tl tc : Nat} {tz : Nat → Int} (H : ∀ i, i < tl → w.cell? ⟨tb, tof + i, none⟩ = some (B8 (tz i))) (hz : ∀ i, 0 ≤ tz i ∧ tz i < 256) (i : Int) (h0 : 0 ≤ i) (hj : i + 1 < tl) (hm : tl ≤ 9223372036854775807) :
    Calls Ybad.prog 5 #[.slice (some ⟨tb, tof, none⟩) tl tc, .int .i64 i] w fun e w' => e = .returned (.int .u16 (be16 (tz i.toNat) (tz (i + 1).toNat))) ∧ ∃ q, w' = w.drewN q :=
  be16_calls tb tof tl tc _ _ _ w (by omega) (by omega) hm (hz _).1 (hz _).2 (hz _).1 (hz _).2 (H _ (by omega)) (H _ (by omega))
theorem be32_tail {w : World} {tb tof tl tc : Nat} {tz : Nat → Int} (H : ∀ i, i < tl → w.cell? ⟨tb, tof + i, none⟩ = some (B8 (tz i))) (hz : ∀ i, 0 ≤ tz i ∧ tz i < 256) (i : Int) (h0 : 0 ≤ i) (hj : i + 3 < tl) (hm : tl ≤ 9223372036854775807) :
    Calls Ybad.prog 6 #[.slice (some ⟨tb, tof, none⟩) tl tc, .int .i64 i] w fun e w' => e = .returned (.int .u32 (be32 (tz i.toNat) (tz (i + 1).toNat) (tz (i + 2).toNat) (tz (i + 3).toNat))) ∧ ∃ q, w' = w.drewN q :=
  be32_calls tb tof tl tc _ _ _ _ _ w (by omega) (by omega) hm (hz _).1 (hz _).2 (hz _).1 (hz _).2 (hz _).1 (hz _).2 (hz _).1 (hz _).2 (H _ (by omega)) (H _ (by omega)) (H _ (by omega)) (H _ (by omega))

set_option maxHeartbeats 4000000 in
set_option maxRecDepth 100000 in
theorem law_mal (cum rw cut : Int) (ng nd : Nat) (ta : Option Addr) (tl tc : Nat) (tz : Nat → Int) (w : World)
    (c0 : 0 ≤ cum) (c1 : cum < 4294967296) (r0 : 0 ≤ rw) (r1 : rw < 4294967296) (g1 : ng < 65536) (d1 : nd < 65536) (u0 : 0 ≤ cut) (u1 : cut < 256)
    (hl : tl ≤ 1048576) (htz : ∀ i, 0 ≤ tz i ∧ tz i < 256)
    (hT : tl = 0 ∨ 0 < tl ∧ ∃ tb tof, ta = some ⟨tb, tof, none⟩ ∧ ∀ i, i < tl → w.cell? ⟨tb, tof + i, none⟩ = some (B8 (tz i)))
    (pa : Addr) (he : w.cell? ⟨0, 0, none⟩ = some (.iface 42 (.pointer (some pa))))
    (hcut : ¬ cut % 4 = 0) (hmal : tl < 4 * (ng + nd)) :
    Calls Ybad.prog 3 #[.int .u32 cum, .int .u32 rw, .int .u16 (ng : Int), .int .u16 (nd : Int), .slice ta tl tc, .int .u8 cut] w fun e w' => e = .returned (.bool true) ∧ Below w.heap.size w w' := by
  have hl' : ¬ (1048576 : Int) < (tl : Int) := by omega
  obtain ⟨i5, hi5, hz0, hz1, hz2⟩ := info_parts info5
  obtain ⟨MK, hmk, hMK⟩ : ∃ MK, (Instr.makeSlice 24 (.int .i64 0) (.int .i64 (12 + (tl : Int)))).run Ybad.prog w = .ok (.slice (some ⟨w.heap.size, 0, none⟩) 0 (12 + tl)) (w.alloc MK) ∧ Hid ((w.alloc MK).ownsRow w.heap.size 5 1 (.slice (some ⟨w.heap.size, 0, none⟩) 0 (12 + tl)) 0 []) := by
    have h := run_make (P := Ybad.prog) w 24 5 i5 _ Ybad.underlying24 hi5 hz0 .i64 .i64 0 (12 + (tl : Int)) (by omega) (by omega) (by rw [hz2]; omega) (by omega)
    have e1 : (12 + (tl : Int)).toNat = 12 + tl := by omega
    rw [e1] at h
    exact ⟨_, h, World.ownsRow_made w _ _ (Nat.le_refl _) (by unfold maxLen; omega) (by rw [size_madeCells, hz1])⟩
  have bl0 : Below w.heap.size w (w.alloc MK) := (Below.refl _ _).alloc (Nat.le_refl _) _
  have hT' : Hid (tl = 0 ∨ 0 < tl ∧ ∃ tb tof, ta = some ⟨tb, tof, none⟩ ∧ ∀ i, i < tl → w.cell? ⟨tb, tof + i, none⟩ = some (B8 (tz i))) := hT
  clear hT
  go_enter Ybad.func3, Ybad.ntmps3
  go_upto_region 5 with (at_builtin; refine wpList_app8 w (bl0.alloc (by simp) _) rfl _ _ rfl (.slice (some ⟨w.heap.size, 0, none⟩) 0 (12 + tl)) 0 [] rfl (hMK.out.alloc _) ⟨w.heap.size + 1, 0, none⟩ 4 4 [B8 (cum / 16777216), B8 (cum / 65536 % 256), B8 (cum / 256 % 256), B8 (cum % 256)] rfl rfl (World.news_of_block (cs := #[B8 (cum / 16777216), B8 (cum / 65536 % 256), B8 (cum / 256 % 256), B8 (cum % 256)]) (t := 5) (fr := (0, 0)) (by exact heap_new_at _ _ _ (by simp))) (by simp [Value.oneCell']) (by omega) (by omega) ?_; intro fg1 cp1 w1 hown1 bl1)
  have hown1' : Hid (w1.ownsRow w.heap.size 5 1 (.slice (some ⟨fg1, 0, none⟩) 4 cp1) 4 [B8 (cum / 16777216), B8 (cum / 65536 % 256), B8 (cum / 256 % 256), B8 (cum % 256)]) := hown1
  clear hown1 hMK hmk bl0
  have z1 := bl1.size
  go_upto_region 6 with (at_builtin; refine wpList_app8 w (bl1.alloc z1 _) rfl _ _ rfl (.slice (some ⟨fg1, 0, none⟩) 4 cp1) 4 _ rfl (hown1'.out.alloc _) ⟨w1.heap.size, 0, none⟩ 4 4 [B8 (rw / 16777216), B8 (rw / 65536 % 256), B8 (rw / 256 % 256), B8 (rw % 256)] rfl rfl (World.news_of_block (cs := #[B8 (rw / 16777216), B8 (rw / 65536 % 256), B8 (rw / 256 % 256), B8 (rw % 256)]) (t := 5) (fr := (0, 0)) (by exact heap_new_at _ _ _ (by simp))) (by simp [Value.oneCell']) (by omega) (by omega) ?_; intro fg2 cp2 w2 hown2 bl2)
  have hown2' : Hid (w2.ownsRow w.heap.size 5 1 (.slice (some ⟨fg2, 0, none⟩) 8 cp2) 8 [B8 (cum / 16777216), B8 (cum / 65536 % 256), B8 (cum / 256 % 256), B8 (cum % 256), B8 (rw / 16777216), B8 (rw / 65536 % 256), B8 (rw / 256 % 256), B8 (rw % 256)]) := hown2
  clear hown2 hown1' bl1 z1
  have z2 := bl2.size
  go_upto_region 7 with (at_builtin; refine wpList_app8 w (bl2.alloc z2 _) rfl _ _ rfl (.slice (some ⟨fg2, 0, none⟩) 8 cp2) 8 _ rfl (hown2'.out.alloc _) ⟨w2.heap.size, 0, none⟩ 4 4 [B8 ((ng : Int) / 256), B8 ((ng : Int) % 256), B8 ((nd : Int) / 256), B8 ((nd : Int) % 256)] rfl rfl (World.news_of_block (cs := #[B8 ((ng : Int) / 256), B8 ((ng : Int) % 256), B8 ((nd : Int) / 256), B8 ((nd : Int) % 256)]) (t := 5) (fr := (0, 0)) (by exact heap_new_at _ _ _ (by simp))) (by simp [Value.oneCell']) (by omega) (by omega) ?_; intro fg3 cp3 w3 hown3 bl3)
  have hown3' : Hid (w3.ownsRow w.heap.size 5 1 (.slice (some ⟨fg3, 0, none⟩) 12 cp3) 12 ((hdr cum rw ng nd).map B8)) := hown3
  clear hown3 hown2' bl2 z2
  go_upto_region 8 with (at_builtin; refine wpList_app8_any w bl3 rfl _ _ rfl fg3 cp3 12 _ rfl hown3'.out ta tl tc tz rfl hT'.out (by omega) ?_; intro fg cp w4 hown bl)
  clear hown3' bl3
  obtain ⟨hcap, hcm, hfb, hfl⟩ := cap_of_own hown
  have hby : Bytes w4 fg (12 + tl) (zf cum rw ng nd tz) := bytes_of_own hown (all_get cum rw ng nd tz tl) (zf_bd cum rw ng nd tz c0 c1 r0 r1 (by omega) (by omega) (by omega) (by omega) htz)
  clear hown
  have hc13 : ¬ cp = 0 := by omega
  unfold maxLen at hcm
  obtain ⟨KC, hmk, hKC⟩ : ∃ KC : List Value, (Instr.makeSlice 24 (.int .i64 (12 + (tl : Int))) (.int .i64 (12 + (tl : Int)))).run Ybad.prog w4 = .ok (.slice (some ⟨w4.heap.size, 0, none⟩) (12 + tl) (12 + tl)) (w4.alloc (.cells KC.toArray 5)) ∧ Hid (KC.length = (12 + tl)) := by
    have h := run_make (P := Ybad.prog) w4 24 5 i5 _ Ybad.underlying24 hi5 hz0 .i64 .i64 (12 + (tl : Int)) (12 + (tl : Int)) (by omega) (by omega) (by rw [hz2]; omega) (by omega)
    rw [show (12 + (tl : Int)).toNat = (12 + tl) from by omega] at h
    exact ⟨(madeCells (Value.int .u8 0).cells ((12 + tl) * i5.size)).toList, h, by show _ = _; rw [Array.length_toList, size_madeCells, hz1, Nat.mul_one]⟩
  go_upto_region 12 with fail
  go_upto_region 13 with (refine wpList_copy_splice rfl _ _ 24 24 rfl 5 Ybad.underlying24 (by rw [hi5]; exact congrArg some hz1) (some ⟨w4.heap.size, 0, none⟩) (some ⟨fg, 0, none⟩) (12 + tl) (12 + tl) (12 + tl) cp rfl rfl w4.heap.size 0 KC 5 (by exact heap_alloc_new w4 _) (tailVals (zf cum rw ng nd tz) (12 + tl)) (by rw [tailVals_length]; simp) (fun _ => ⟨rfl, _, rfl, by exact bytes_news (hby.alloc _) (by omega)⟩) (by rw [tailVals_length, hKC.out]; omega) (by exact tail_one _ _) w4.heap.size w4 ((Below.refl _ _).alloc (Nat.le_refl _) _) (Nat.le_refl _) ?_; intro w8 HG8 bl8)
  have hkb : Bytes w8 w4.heap.size (12 + tl) (zf cum rw ng nd tz) := bytes_of_block hKC.out HG8.out hby.2
  have hfb8 : Bytes w8 fg (12 + tl) (zf cum rw ng nd tz) := hby.below bl8 hfl
  have blw8 := bl.trans (bl8.mono bl.size)
  have he8 := old_cell blw8 he
  have hkl : w4.heap.size < w8.heap.size := by
    rcases Nat.lt_or_ge w4.heap.size w8.heap.size with h | h
    · exact h
    · have h8 := HG8.out; rw [Array.getElem?_eq_none h] at h8; cases h8
  clear hmk hKC HG8
  go_upto_region 14 with (go_at_call 4; refine (parse_mal fg (12 + tl) cp (zf cum rw ng nd tz) ng nd 42 (.pointer (some pa)) _ (by omega) hcap (by omega) hfb8 (zf_lo cum rw ng nd tz).2.2.1 (zf_lo cum rw ng nd tz).2.2.2 g1 d1 he8 (by omega)).mono ?_; rintro e w9 ⟨rfl, bl9⟩)
  have hfb10 : Bytes (w9.alloc (Obj.cells #[Value.int IntKind.u32 0, Value.int IntKind.u32 0, Value.slice none 0 0, Value.slice none 0 0] 29)) fg (12 + tl) (zf cum rw ng nd tz) := (hfb8.below bl9 (Nat.lt_trans hfl hkl)).alloc _
  have hkb10 : Bytes (w9.alloc (Obj.cells #[Value.int IntKind.u32 0, Value.int IntKind.u32 0, Value.slice none 0 0, Value.slice none 0 0] 29)) w4.heap.size (12 + tl) (zf cum rw ng nd tz) := (hkb.below bl9 hkl).alloc _
  have blw9 := blw8.trans (bl9.mono blw8.size)
  have blf : Below w.heap.size w (w9.alloc (Obj.cells #[Value.int IntKind.u32 0, Value.int IntKind.u32 0, Value.slice none 0 0, Value.slice none 0 0] 29)) := blw9.alloc blw9.size _
  have he10 : (w9.alloc (Obj.cells #[Value.int IntKind.u32 0, Value.int IntKind.u32 0, Value.slice none 0 0, Value.slice none 0 0] 29)).cell? ⟨0, 0, none⟩ = some (.iface 42 (.pointer (some pa))) := cell?_alloc_old _ (old_cell bl9 he8)
  have hbox := Box.new w9 (.int .u32 0) (.int .u32 0) (.slice none 0 0) (.slice none 0 0) 29
  obtain ⟨b0, b1, b2, b3, _⟩ := hbox
  have heq := eql_same pa
  have he26 := eql_nil Ybad.underlying26
  have he27 := eql_nil Ybad.underlying27
  clear hby bl bl8 blw8 hkb hfb8 he8 bl9 hfb hcap blw9 he
  go_wp2
  go_loopw [18] (fun i w' => ∃ k : Nat, k ≤ 12 + tl ∧ i = .int .i64 k ∧ ∃ q, w' = (w9.alloc (Obj.cells #[Value.int IntKind.u32 0, Value.int IntKind.u32 0, Value.slice none 0 0, Value.slice none 0 0] 29)).drewN q) (fun i _ => 12 + tl - (intOf i).toNat)
  case atStart => exact ⟨0, Nat.zero_le _, rfl, 0, rfl⟩
  case round =>
    obtain ⟨k, hk, rfl, q, rfl⟩ := hrel
    by_cases hlt : k < 12 + tl
    · have a1 := hfb10.1 k hlt
      have a2 := hkb10.1 k hlt
      have a3 : (k : Int) < ((12 + tl : Nat) : Int) := by omega
      go_wp2
      go_quiet (fail)
      go_wp2
      go_light
      exact ⟨⟨k + 1, by omega, by go_num, _, rfl⟩, by simp [intOf]; omega⟩
    · have hm1 : (tl : Int) < 4 * ((ng : Int) + (nd : Int)) := by omega
      go_wp2
      go_ret
      exact ⟨rfl, below_drewN blf _⟩

set_option maxHeartbeats 4000000 in
set_option maxRecDepth 100000 in
theorem law_ok (cum rw cut : Int) (ng nd : Nat) (ta : Option Addr) (tl tc : Nat) (tz : Nat → Int) (w : World)
    (c0 : 0 ≤ cum) (c1 : cum < 4294967296) (r0 : 0 ≤ rw) (r1 : rw < 4294967296) (g1 : ng < 65536) (d1 : nd < 65536) (u0 : 0 ≤ cut) (u1 : cut < 256)
    (hl : tl ≤ 1048576) (htz : ∀ i, 0 ≤ tz i ∧ tz i < 256)
    (hT : tl = 0 ∨ 0 < tl ∧ ∃ tb tof, ta = some ⟨tb, tof, none⟩ ∧ ∀ i, i < tl → w.cell? ⟨tb, tof + i, none⟩ = some (B8 (tz i)))
    (pa : Addr) (he : w.cell? ⟨0, 0, none⟩ = some (.iface 42 (.pointer (some pa))))
    (hcut : ¬ cut % 4 = 0) (hok : 4 * (ng + nd) ≤ tl) :
    Calls Ybad.prog 3 #[.int .u32 cum, .int .u32 rw, .int .u16 (ng : Int), .int .u16 (nd : Int), .slice ta tl tc, .int .u8 cut] w fun e w' => e = .returned (.bool true) ∧ Below w.heap.size w w' := by
  have hl' : ¬ (1048576 : Int) < (tl : Int) := by omega
  obtain ⟨i5, hi5, hz0, hz1, hz2⟩ := info_parts info5
  obtain ⟨MK, hmk, hMK⟩ : ∃ MK, (Instr.makeSlice 24 (.int .i64 0) (.int .i64 (12 + (tl : Int)))).run Ybad.prog w = .ok (.slice (some ⟨w.heap.size, 0, none⟩) 0 (12 + tl)) (w.alloc MK) ∧ Hid ((w.alloc MK).ownsRow w.heap.size 5 1 (.slice (some ⟨w.heap.size, 0, none⟩) 0 (12 + tl)) 0 []) := by
    have h := run_make (P := Ybad.prog) w 24 5 i5 _ Ybad.underlying24 hi5 hz0 .i64 .i64 0 (12 + (tl : Int)) (by omega) (by omega) (by rw [hz2]; omega) (by omega)
    have e1 : (12 + (tl : Int)).toNat = 12 + tl := by omega
    rw [e1] at h
    exact ⟨_, h, World.ownsRow_made w _ _ (Nat.le_refl _) (by unfold maxLen; omega) (by rw [size_madeCells, hz1])⟩
  have bl0 : Below w.heap.size w (w.alloc MK) := (Below.refl _ _).alloc (Nat.le_refl _) _
  have hT' : Hid (tl = 0 ∨ 0 < tl ∧ ∃ tb tof, ta = some ⟨tb, tof, none⟩ ∧ ∀ i, i < tl → w.cell? ⟨tb, tof + i, none⟩ = some (B8 (tz i))) := hT
  clear hT
  go_enter Ybad.func3, Ybad.ntmps3
  go_upto_region 5 with (at_builtin; refine wpList_app8 w (bl0.alloc (by simp) _) rfl _ _ rfl (.slice (some ⟨w.heap.size, 0, none⟩) 0 (12 + tl)) 0 [] rfl (hMK.out.alloc _) ⟨w.heap.size + 1, 0, none⟩ 4 4 [B8 (cum / 16777216), B8 (cum / 65536 % 256), B8 (cum / 256 % 256), B8 (cum % 256)] rfl rfl (World.news_of_block (cs := #[B8 (cum / 16777216), B8 (cum / 65536 % 256), B8 (cum / 256 % 256), B8 (cum % 256)]) (t := 5) (fr := (0, 0)) (by exact heap_new_at _ _ _ (by simp))) (by simp [Value.oneCell']) (by omega) (by omega) ?_; intro fg1 cp1 w1 hown1 bl1)
  have hown1' : Hid (w1.ownsRow w.heap.size 5 1 (.slice (some ⟨fg1, 0, none⟩) 4 cp1) 4 [B8 (cum / 16777216), B8 (cum / 65536 % 256), B8 (cum / 256 % 256), B8 (cum % 256)]) := hown1
  clear hown1 hMK hmk bl0
  have z1 := bl1.size
  go_upto_region 6 with (at_builtin; refine wpList_app8 w (bl1.alloc z1 _) rfl _ _ rfl (.slice (some ⟨fg1, 0, none⟩) 4 cp1) 4 _ rfl (hown1'.out.alloc _) ⟨w1.heap.size, 0, none⟩ 4 4 [B8 (rw / 16777216), B8 (rw / 65536 % 256), B8 (rw / 256 % 256), B8 (rw % 256)] rfl rfl (World.news_of_block (cs := #[B8 (rw / 16777216), B8 (rw / 65536 % 256), B8 (rw / 256 % 256), B8 (rw % 256)]) (t := 5) (fr := (0, 0)) (by exact heap_new_at _ _ _ (by simp))) (by simp [Value.oneCell']) (by omega) (by omega) ?_; intro fg2 cp2 w2 hown2 bl2)
  have hown2' : Hid (w2.ownsRow w.heap.size 5 1 (.slice (some ⟨fg2, 0, none⟩) 8 cp2) 8 [B8 (cum / 16777216), B8 (cum / 65536 % 256), B8 (cum / 256 % 256), B8 (cum % 256), B8 (rw / 16777216), B8 (rw / 65536 % 256), B8 (rw / 256 % 256), B8 (rw % 256)]) := hown2
  clear hown2 hown1' bl1 z1
  have z2 := bl2.size
  go_upto_region 7 with (at_builtin; refine wpList_app8 w (bl2.alloc z2 _) rfl _ _ rfl (.slice (some ⟨fg2, 0, none⟩) 8 cp2) 8 _ rfl (hown2'.out.alloc _) ⟨w2.heap.size, 0, none⟩ 4 4 [B8 ((ng : Int) / 256), B8 ((ng : Int) % 256), B8 ((nd : Int) / 256), B8 ((nd : Int) % 256)] rfl rfl (World.news_of_block (cs := #[B8 ((ng : Int) / 256), B8 ((ng : Int) % 256), B8 ((nd : Int) / 256), B8 ((nd : Int) % 256)]) (t := 5) (fr := (0, 0)) (by exact heap_new_at _ _ _ (by simp))) (by simp [Value.oneCell']) (by omega) (by omega) ?_; intro fg3 cp3 w3 hown3 bl3)
  have hown3' : Hid (w3.ownsRow w.heap.size 5 1 (.slice (some ⟨fg3, 0, none⟩) 12 cp3) 12 ((hdr cum rw ng nd).map B8)) := hown3
  clear hown3 hown2' bl2 z2
  go_upto_region 8 with (at_builtin; refine wpList_app8_any w bl3 rfl _ _ rfl fg3 cp3 12 _ rfl hown3'.out ta tl tc tz rfl hT'.out (by omega) ?_; intro fg cp w4 hown bl)
  clear hown3' bl3
  obtain ⟨hcap, hcm, hfb, hfl⟩ := cap_of_own hown
  have hby : Bytes w4 fg (12 + tl) (zf cum rw ng nd tz) := bytes_of_own hown (all_get cum rw ng nd tz tl) (zf_bd cum rw ng nd tz c0 c1 r0 r1 (by omega) (by omega) (by omega) (by omega) htz)
  clear hown
  have hc13 : ¬ cp = 0 := by omega
  unfold maxLen at hcm
  obtain ⟨KC, hmk, hKC⟩ : ∃ KC : List Value, (Instr.makeSlice 24 (.int .i64 (12 + (tl : Int))) (.int .i64 (12 + (tl : Int)))).run Ybad.prog w4 = .ok (.slice (some ⟨w4.heap.size, 0, none⟩) (12 + tl) (12 + tl)) (w4.alloc (.cells KC.toArray 5)) ∧ Hid (KC.length = (12 + tl)) := by
    have h := run_make (P := Ybad.prog) w4 24 5 i5 _ Ybad.underlying24 hi5 hz0 .i64 .i64 (12 + (tl : Int)) (12 + (tl : Int)) (by omega) (by omega) (by rw [hz2]; omega) (by omega)
    rw [show (12 + (tl : Int)).toNat = (12 + tl) from by omega] at h
    exact ⟨(madeCells (Value.int .u8 0).cells ((12 + tl) * i5.size)).toList, h, by show _ = _; rw [Array.length_toList, size_madeCells, hz1, Nat.mul_one]⟩
  go_upto_region 12 with fail
  go_upto_region 13 with (refine wpList_copy_splice rfl _ _ 24 24 rfl 5 Ybad.underlying24 (by rw [hi5]; exact congrArg some hz1) (some ⟨w4.heap.size, 0, none⟩) (some ⟨fg, 0, none⟩) (12 + tl) (12 + tl) (12 + tl) cp rfl rfl w4.heap.size 0 KC 5 (by exact heap_alloc_new w4 _) (tailVals (zf cum rw ng nd tz) (12 + tl)) (by rw [tailVals_length]; simp) (fun _ => ⟨rfl, _, rfl, by exact bytes_news (hby.alloc _) (by omega)⟩) (by rw [tailVals_length, hKC.out]; omega) (by exact tail_one _ _) w4.heap.size w4 ((Below.refl _ _).alloc (Nat.le_refl _) _) (Nat.le_refl _) ?_; intro w8 HG8 bl8)
  have hkb : Bytes w8 w4.heap.size (12 + tl) (zf cum rw ng nd tz) := bytes_of_block hKC.out HG8.out hby.2
  have hfb8 : Bytes w8 fg (12 + tl) (zf cum rw ng nd tz) := hby.below bl8 hfl
  have blw8 := bl.trans (bl8.mono bl.size)
  have he8 := old_cell blw8 he
  have hkl : w4.heap.size < w8.heap.size := by
    rcases Nat.lt_or_ge w4.heap.size w8.heap.size with h | h
    · exact h
    · have h8 := HG8.out; rw [Array.getElem?_eq_none h] at h8; cases h8
  clear hmk hKC HG8
  go_upto_region 14 with (go_at_call 4; refine (parse_ok fg (12 + tl) cp cum rw ng nd tz 42 (.pointer (some pa)) _ (by omega) hcap (by omega) hfb8 g1 d1 he8 (by omega)).mono ?_; rintro e w9 ⟨ga, gc, da, dc, rfl, bl9, gn, dn, gp, dp⟩)
  have hfb10 : Bytes (w9.alloc (Obj.cells #[Value.int IntKind.u32 cum, Value.int IntKind.u32 rw, Value.slice ga ng gc, Value.slice da nd dc] 29)) fg (12 + tl) (zf cum rw ng nd tz) := (hfb8.below bl9 (Nat.lt_trans hfl hkl)).alloc _
  have hkb10 : Bytes (w9.alloc (Obj.cells #[Value.int IntKind.u32 cum, Value.int IntKind.u32 rw, Value.slice ga ng gc, Value.slice da nd dc] 29)) w4.heap.size (12 + tl) (zf cum rw ng nd tz) := (hkb.below bl9 hkl).alloc _
  have blw9 := blw8.trans (bl9.mono blw8.size)
  have blf : Below w.heap.size w (w9.alloc (Obj.cells #[Value.int IntKind.u32 cum, Value.int IntKind.u32 rw, Value.slice ga ng gc, Value.slice da nd dc] 29)) := blw9.alloc blw9.size _
  have hbox := Box.new w9 (.int .u32 cum) (.int .u32 rw) (.slice ga ng gc) (.slice da nd dc) 29
  obtain ⟨b0, b1, b2, b3, _⟩ := hbox
  have he26 := neq_nil Ybad.underlying26
  have he27 := neq_nil Ybad.underlying27
  have gp' : Hid (0 < ng → ∃ b, ga = some ⟨b, 0, none⟩ ∧ ∀ k, k < ng → (w9.alloc (Obj.cells #[Value.int IntKind.u32 cum, Value.int IntKind.u32 rw, Value.slice ga ng gc, Value.slice da nd dc] 29)).cell? ⟨b, 2 * k, none⟩ = some (.int .u16 (be16 (tz (4 * k)) (tz (4 * k + 1)))) ∧ (w9.alloc (Obj.cells #[Value.int IntKind.u32 cum, Value.int IntKind.u32 rw, Value.slice ga ng gc, Value.slice da nd dc] 29)).cell? ⟨b, 2 * k + 1, none⟩ = some (.int .u16 (be16 (tz (4 * k + 2)) (tz (4 * k + 3))))) := by
    intro h0
    obtain ⟨b, e, h⟩ := gp h0
    exact ⟨b, e, fun k hk => ⟨cell?_alloc_old _ (h k hk).1, cell?_alloc_old _ (h k hk).2⟩⟩
  have dp' : Hid (0 < nd → ∃ b, da = some ⟨b, 0, none⟩ ∧ ∀ k, k < nd → (w9.alloc (Obj.cells #[Value.int IntKind.u32 cum, Value.int IntKind.u32 rw, Value.slice ga ng gc, Value.slice da nd dc] 29)).cell? ⟨b, k, none⟩ = some (.int .u32 (be32 (tz (4 * (ng + k))) (tz (4 * (ng + k) + 1)) (tz (4 * (ng + k) + 2)) (tz (4 * (ng + k) + 3))))) := by
    intro h0
    obtain ⟨b, e, h⟩ := dp h0
    exact ⟨b, e, fun k hk => cell?_alloc_old _ (h k hk)⟩
  have hT10 : Hid (tl = 0 ∨ 0 < tl ∧ ∃ tb tof, ta = some ⟨tb, tof, none⟩ ∧ ∀ i, i < tl → (w9.alloc (Obj.cells #[Value.int IntKind.u32 cum, Value.int IntKind.u32 rw, Value.slice ga ng gc, Value.slice da nd dc] 29)).cell? ⟨tb, tof + i, none⟩ = some (B8 (tz i))) := by
    rcases hT'.out with h | ⟨h0, tb, tof, e, h⟩
    · exact .inl h
    · exact .inr ⟨h0, tb, tof, e, fun i hi => old_cell blf (h i hi)⟩
  have gn' : Hid (ng = 0 → ga = none ∧ gc = 0) := gn
  have dn' : Hid (nd = 0 → da = none ∧ dc = 0) := dn
  clear hby bl bl8 blw8 hkb hfb8 he8 bl9 hfb hcap blw9 he gp dp hT' gn dn
  go_wp2
  go_loopw [18] (fun i w' => ∃ k : Nat, k ≤ 12 + tl ∧ i = .int .i64 k ∧ ∃ q, w' = (w9.alloc (Obj.cells #[Value.int IntKind.u32 cum, Value.int IntKind.u32 rw, Value.slice ga ng gc, Value.slice da nd dc] 29)).drewN q) (fun i _ => 12 + tl - (intOf i).toNat)
  case atStart => exact ⟨0, Nat.zero_le _, rfl, 0, rfl⟩
  case round =>
    obtain ⟨k, hk, rfl, q, rfl⟩ := hrel
    by_cases hlt : k < 12 + tl
    · have a1 := hfb10.1 k hlt
      have a2 := hkb10.1 k hlt
      have a3 : (k : Int) < ((12 + tl : Nat) : Int) := by omega
      go_wp2
      go_quiet (fail)
      go_wp2
      go_light
      exact ⟨⟨k + 1, by omega, by go_num, _, rfl⟩, by simp [intOf]; omega⟩
    · have hm1 : ¬ (tl : Int) < 4 * ((ng : Int) + (nd : Int)) := by omega
      go_upto_if 167 with fail
      go_cut [20] (fun _ w' => ∃ q, w' = (w9.alloc (Obj.cells #[Value.int IntKind.u32 cum, Value.int IntKind.u32 rw, Value.slice ga ng gc, Value.slice da nd dc] 29)).drewN q)
      case first =>
        by_cases h0 : ng = 0
        · obtain ⟨e1, e2⟩ := gn'.out h0
          subst e1 e2
          have hz : ((ng : Int) == 0) = true := by rw [beq_iff_eq]; omega
          have he26' : ∀ W, (binOp .neq 26 (.slice none ng 0) (.slice none 0 0)).run Ybad.prog W = .ok (.bool false) W := fun W => run_neq_slice_nil W 26 34 none ng 0 Ybad.underlying26
          have h0' : Hid (ng = 0) := h0
          clear h0
          go_wp2_with fail
          go_meet
          case rel => exact ⟨_, rfl⟩
        · obtain ⟨b, rfl, hgc⟩ := gp'.out (by omega)
          have hne : ((ng : Int) == 0) = false := by rw [beq_eq_false_iff_ne]; omega
          rcases hT10.out with h | ⟨_, tb, tof, rfl, htc⟩
          · omega
          have htc' : Hid (∀ i, i < tl → (w9.alloc (Obj.cells #[Value.int IntKind.u32 cum, Value.int IntKind.u32 rw, Value.slice (some ⟨b, 0, none⟩) ng gc, Value.slice da nd dc] 29)).cell? ⟨tb, tof + i, none⟩ = some (B8 (tz i))) := htc
          have hgc' : Hid (∀ k, k < ng → (w9.alloc (Obj.cells #[Value.int IntKind.u32 cum, Value.int IntKind.u32 rw, Value.slice (some ⟨b, 0, none⟩) ng gc, Value.slice da nd dc] 29)).cell? ⟨b, 2 * k, none⟩ = some (.int .u16 (be16 (tz (4 * k)) (tz (4 * k + 1)))) ∧ (w9.alloc (Obj.cells #[Value.int IntKind.u32 cum, Value.int IntKind.u32 rw, Value.slice (some ⟨b, 0, none⟩) ng gc, Value.slice da nd dc] 29)).cell? ⟨b, 2 * k + 1, none⟩ = some (.int .u16 (be16 (tz (4 * k + 2)) (tz (4 * k + 3))))) := hgc
          clear htc hgc
          go_wp2_with fail
          go_loopw [20] (fun i w' => ∃ k : Nat, k ≤ ng ∧ i = .int .i64 k ∧ ∃ q, w' = (w9.alloc (Obj.cells #[Value.int IntKind.u32 cum, Value.int IntKind.u32 rw, Value.slice (some ⟨b, 0, none⟩) ng gc, Value.slice da nd dc] 29)).drewN q) (fun i _ => ng - (intOf i).toNat)
          case atStart => exact ⟨0, Nat.zero_le _, rfl, _, rfl⟩
          case round =>
            obtain ⟨k, hk, rfl, q, hq⟩ := hrel
            have HQ : Hid (wr = (w9.alloc (Obj.cells #[Value.int IntKind.u32 cum, Value.int IntKind.u32 rw, Value.slice (some ⟨b, 0, none⟩) ng gc, Value.slice da nd dc] 29)).drewN q) := hq
            clear hq
            by_cases hlt : k < ng
            · obtain ⟨G0, G1⟩ := hgc'.out k hlt
              rw [Nat.mul_comm 2 k] at G0 G1
              have F2 : wr.cell? ⟨w9.heap.size, 2, none⟩ = some (.slice (some ⟨b, 0, none⟩) ng gc) := by rw [HQ.out]; exact b2
              have G0w : wr.cell? ⟨b, k * 2, none⟩ = some (.int .u16 (be16 (tz (4 * (k : Int)).toNat) (tz (4 * (k : Int) + 1).toNat))) := by rw [HQ.out, show (4 * (k : Int)).toNat = 4 * k from by omega, show (4 * (k : Int) + 1).toNat = 4 * k + 1 from by omega]; exact G0
              have G1w : wr.cell? ⟨b, k * 2 + 1, none⟩ = some (.int .u16 (be16 (tz (4 * (k : Int) + 2).toNat) (tz (4 * (k : Int) + 2 + 1).toNat))) := by rw [HQ.out, show (4 * (k : Int) + 2).toNat = 4 * k + 2 from by omega, show (4 * (k : Int) + 2 + 1).toNat = 4 * k + 3 from by omega]; exact G1
              have Tw : Hid (∀ nq i, i < tl → (wr.drewN nq).cell? ⟨tb, tof + i, none⟩ = some (B8 (tz i))) := by intro nq; rw [HQ.out]; exact htc'.out
              clear G0 G1
              have a3 : (k : Int) < (ng : Int) := by omega
              have a4 : (0 : Int) ≤ (k : Int) := by omega
              have e1 : IntKind.i64.wrap (4 * (k : Int)) = 4 * (k : Int) := by rw [IntKind.wrap_i64]; omega
              have e2 : IntKind.i64.wrap (4 * (k : Int) + 2) = 4 * (k : Int) + 2 := by rw [IntKind.wrap_i64]; omega
              go_wp2
              go_quiet ((go_at_call 5; exact Calls.quiet_of (be16_tail (Tw.out _) htz _ (by omega) (by omega) (by omega))))
              go_wp2
              go_light
              exact ⟨⟨k + 1, by omega, by go_num, _, by rw [HQ.out, World.drewN_drewN]⟩, by simp [intOf]; omega⟩
            · go_wp2_with fail
              go_meet
              case rel => exact ⟨_, HQ.out⟩
      case rest =>
        obtain ⟨q2, hq⟩ := hcut
        have HQ : Hid (wc = (w9.alloc (Obj.cells #[Value.int IntKind.u32 cum, Value.int IntKind.u32 rw, Value.slice ga ng gc, Value.slice da nd dc] 29)).drewN q2) := hq
        clear hq
        have blc : Below w.heap.size w wc := by rw [HQ.out]; exact below_drewN blf _
        have F3 : wc.cell? ⟨w9.heap.size, 3, none⟩ = some (.slice da nd dc) := by rw [HQ.out]; exact b3
        by_cases h0 : nd = 0
        · obtain ⟨e1, e2⟩ := dn'.out h0
          subst e1 e2
          have hz : ((nd : Int) == 0) = true := by rw [beq_iff_eq]; omega
          have he27' : ∀ W, (binOp .neq 27 (.slice none nd 0) (.slice none 0 0)).run Ybad.prog W = .ok (.bool false) W := fun W => run_neq_slice_nil W 27 22 none nd 0 Ybad.underlying27
          have h0' : Hid (nd = 0) := h0
          clear h0
          go_wp2
          go_ret
          exact ⟨rfl, blc⟩
        · obtain ⟨b, rfl, hdc⟩ := dp'.out (by omega)
          have hne : ((nd : Int) == 0) = false := by rw [beq_eq_false_iff_ne]; omega
          rcases hT10.out with h | ⟨_, tb, tof, rfl, htc⟩
          · omega
          have htc' : Hid (∀ i, i < tl → wc.cell? ⟨tb, tof + i, none⟩ = some (B8 (tz i))) := by show ∀ i, _; rw [HQ.out]; exact htc
          have hdc' : Hid (∀ k, k < nd → wc.cell? ⟨b, k, none⟩ = some (.int .u32 (be32 (tz (4 * (ng + k))) (tz (4 * (ng + k) + 1)) (tz (4 * (ng + k) + 2)) (tz (4 * (ng + k) + 3))))) := by show ∀ k, _; rw [HQ.out]; exact hdc
          clear htc hdc HQ
          go_wp2
          go_loopw [21] (fun i w' => ∃ k : Nat, k ≤ nd ∧ i = .int .i64 k ∧ ∃ q, w' = wc.drewN q) (fun i _ => nd - (intOf i).toNat)
          case atStart => exact ⟨0, Nat.zero_le _, rfl, 0, rfl⟩
          case round =>
            obtain ⟨k, hk, rfl, q, hq⟩ := hrel
            have HQ : Hid (wr = wc.drewN q) := hq
            clear hq
            by_cases hlt : k < nd
            · have G0 := hdc'.out k hlt
              have F3w : wr.cell? ⟨w9.heap.size, 3, none⟩ = some (.slice (some ⟨b, 0, none⟩) nd dc) := by rw [HQ.out]; exact F3
              have G0w : wr.cell? ⟨b, k, none⟩ = some (.int .u32 (be32 (tz (4 * ((ng : Int) + (k : Int))).toNat) (tz (4 * ((ng : Int) + (k : Int)) + 1).toNat) (tz (4 * ((ng : Int) + (k : Int)) + 2).toNat) (tz (4 * ((ng : Int) + (k : Int)) + 3).toNat))) := by
                rw [HQ.out, show (4 * ((ng : Int) + (k : Int))).toNat = 4 * (ng + k) from by omega, show (4 * ((ng : Int) + (k : Int)) + 1).toNat = 4 * (ng + k) + 1 from by omega, show (4 * ((ng : Int) + (k : Int)) + 2).toNat = 4 * (ng + k) + 2 from by omega, show (4 * ((ng : Int) + (k : Int)) + 3).toNat = 4 * (ng + k) + 3 from by omega]; exact G0
              have Tw : Hid (∀ nq i, i < tl → (wr.drewN nq).cell? ⟨tb, tof + i, none⟩ = some (B8 (tz i))) := by intro nq; rw [HQ.out]; exact htc'.out
              clear G0
              have a3 : (k : Int) < (nd : Int) := by omega
              have a4 : (0 : Int) ≤ (k : Int) := by omega
              have e0 : IntKind.i64.wrap ((ng : Int) + (k : Int)) = (ng : Int) + (k : Int) := by rw [IntKind.wrap_i64]; omega
              have e1 : IntKind.i64.wrap (4 * ((ng : Int) + (k : Int))) = 4 * ((ng : Int) + (k : Int)) := by rw [IntKind.wrap_i64]; omega
              go_wp2
              go_quiet ((go_at_call 6; exact Calls.quiet_of (be32_tail (Tw.out _) htz _ (by omega) (by omega) (by omega))))
              go_wp2
              go_light
              exact ⟨⟨k + 1, by omega, by go_num, _, by rw [HQ.out, World.drewN_drewN]⟩, by simp [intOf]; omega⟩
            · go_wp2
              go_ret
              exact ⟨rfl, by rw [HQ.out]; exact below_drewN blc _⟩
end Go.Proofs.YbulkdkciDoor
