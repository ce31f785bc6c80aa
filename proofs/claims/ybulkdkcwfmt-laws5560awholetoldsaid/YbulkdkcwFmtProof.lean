import Derived.Test.YbulkdkcwFmtRows
import Derived.Test.YbulkdkcwFmtCards
import Derived.Test.YbulkdkcwFmtTie
import Derived.Test.YbulkdkcwFmtLaw
import Derived.ProofKit
import Derived.OpenShut
import Derived.LaidMore
import Derived.Stop.LaidErr
import Derived.Stop.Joined
import Derived.Stop.JoinedAt
import Derived.Stop.JoinedTold
import Derived.Deep.DeepWitnessRef
import Derived.SevenTiedAt
import Derived.Below
namespace Go.Proofs.YbulkdkcwFmt
open Go.ChangeShapes Go.WideShapes Go.ChangeAt Go.RowKit
open Go.Extern.Stop Go.Stop Go.Extern

theorem own : ownKnob Ybaf.prog.godebug = none := by kernel_rfl
theorem laidOut : laidOutB Ybaf.prog = true := by kernel_rfl
/-- ErrTooLarge's name, as the specification has it. -/
abbrev eN : String := Rows.lawS5560AWholeSpec.vars.headD default
/-- The name of the dynamic type that a listed datum bears. -/
def dynOf : DataW Unit → String
  | .iface n _ => n
  | _ => default
abbrev eT : String := dynOf Rows.laid_io_EOF
theorem g0N : Ybaf.prog.globalNamed eN = some 0 := by kernel_rfl
theorem g1N : Ybaf.prog.globalNamed "io.EOF" = some 1 := by kernel_rfl
theorem g2N : Ybaf.prog.globalNamed "io.ErrUnexpectedEOF" = some 2 := by kernel_rfl
theorem g0T : (Ybaf.prog.globals[0]?).map (·.type) = some 27 := by kernel_rfl
theorem g1T : (Ybaf.prog.globals[1]?).map (·.type) = some 27 := by kernel_rfl
theorem g2T : (Ybaf.prog.globals[2]?).map (·.type) = some 27 := by kernel_rfl
theorem cells42 : Ybaf.prog.cellsOf 42 = 1 := by kernel_rfl
theorem cells9 : Ybaf.prog.cellsOf 9 = 1 := by kernel_rfl
theorem row40 (u : TypeId) (h : Ybaf.prog.typeName? 3 u = some eT) : u = 40 :=
  typeName_ptr_named (nm := "errors.errorString") (by kernel_rfl) (by kernel_rfl) (by decide) u h

abbrev laidL : List (String × DataW Unit) := Rows.lawS5560AWholeRow.laid
theorem door_met (os : Os) (args : Array Value) : laidMetH Ybaf.prog laidL ((World.doorLaid Ybaf.prog 400 os).forCall (fun _ _ => 0) ⟨#[], args, []⟩).memory :=
  laidMetH_of_parts3 (fuel := 8) (laidMet_of_run' 8 (by kernel_rfl) (by kernel_rfl)) (by kernel_rfl) (by kernel_rfl)

/-- Three sentinels of one type that follow each other on the list: their pointers, pairwise different, each in a row whose frozen range is (0, 0). -/
theorem laid3 {W : World} {na nb nc : String} {ta tb tc : List UInt8} {r : List (String × DataW Unit)} {ga gb gc : Nat}
    (h : laidMet Ybaf.prog ((na, .iface eT (.ptr (.agg [.lit (.string ta)]))) :: (nb, .iface eT (.ptr (.agg [.lit (.string tb)]))) :: (nc, .iface eT (.ptr (.agg [.lit (.string tc)]))) :: r) W)
    (ha : Ybaf.prog.globalNamed na = some ga) (hb : Ybaf.prog.globalNamed nb = some gb) (hc : Ybaf.prog.globalNamed nc = some gc)
    (ka : (Ybaf.prog.globals[ga]?).map (·.type) = some 27) (kb : (Ybaf.prog.globals[gb]?).map (·.type) = some 27) (kc : (Ybaf.prog.globals[gc]?).map (·.type) = some 27) :
    ∃ pa pb pc : Addr, W.var? Ybaf.prog na = some #[.iface 40 (.pointer (some pa))] ∧ W.var? Ybaf.prog nb = some #[.iface 40 (.pointer (some pb))] ∧ W.var? Ybaf.prog nc = some #[.iface 40 (.pointer (some pc))] ∧
      (∃ s, W.cell? pc = some (.string s)) ∧ (∃ c t, W.heap[pa.block]? = some (.cells c t (0, 0))) ∧ (∃ c t, W.heap[pb.block]? = some (.cells c t (0, 0))) ∧ (∃ c t, W.heap[pc.block]? = some (.cells c t (0, 0))) ∧ pa ≠ pb ∧ pa ≠ pc ∧ pb ≠ pc := by
  obtain ⟨ps, ⟨g0, t0, l0, f0, p0, q0, hg0, ht0, hv0, hd0, ⟨g1, t1, l1, f1, p1, q1, hg1, ht1, hv1, hd1, ⟨g2, t2, l2, f2, p2, q2, hg2, ht2, hv2, hd2, _, e2⟩, e1⟩, e0⟩, hnd, hrows⟩ := h
  obtain rfl := Option.some.inj (ha.symm.trans hg0)
  obtain rfl := Option.some.inj (hb.symm.trans hg1)
  obtain rfl := Option.some.inj (hc.symm.trans hg2)
  obtain rfl := Option.some.inj (ka.symm.trans ht0)
  obtain rfl := Option.some.inj (kb.symm.trans ht1)
  obtain rfl := Option.some.inj (kc.symm.trans ht2)
  subst e2
  subst e1
  subst e0
  obtain ⟨l0⟩ := l0
  obtain ⟨l1⟩ := l1
  obtain ⟨l2⟩ := l2
  have ok0 : ∀ u v, l0 = [.iface u v] → Value.okWide Ybaf.prog W .any 0 u v := fun u v e => by
    subst e; exact (hrows ga 0 (by simp [MemPlace.row])).2 u v (by simpa using World.var?_cell hg0 hv0 0)
  have ok1 : ∀ u v, l1 = [.iface u v] → Value.okWide Ybaf.prog W .any 0 u v := fun u v e => by
    subst e; exact (hrows gb 0 (by simp [MemPlace.row])).2 u v (by simpa using World.var?_cell hg1 hv1 0)
  have ok2 : ∀ u v, l2 = [.iface u v] → Value.okWide Ybaf.prog W .any 0 u v := fun u v e => by
    subst e; exact (hrows gc 0 (by simp [MemPlace.row])).2 u v (by simpa using World.var?_cell hg2 hv2 0)
  obtain ⟨a0, s0, rfl, hc0, hs0, hz0, rfl⟩ := errorString_of_trod Ybaf.underlying27 row40 Ybaf.underlying40 Ybaf.underlying42 rfl rfl Ybaf.underlying9 cells42 cells9 hd0 ok0
  obtain ⟨a1, s1, rfl, hc1, hs1, hz1, rfl⟩ := errorString_of_trod Ybaf.underlying27 row40 Ybaf.underlying40 Ybaf.underlying42 rfl rfl Ybaf.underlying9 cells42 cells9 hd1 ok1
  obtain ⟨a2, s2, rfl, hc2, hs2, hz2, rfl⟩ := errorString_of_trod Ybaf.underlying27 row40 Ybaf.underlying40 Ybaf.underlying42 rfl rfl Ybaf.underlying9 cells42 cells9 hd2 ok2
  refine ⟨a0, a1, a2, hv0, hv1, hv2, ⟨s2, hc2⟩, (hrows a0.block a0.off (by simp [MemPlace.row])).1, (hrows a1.block a1.off (by simp [MemPlace.row])).1, (hrows a2.block a2.off (by simp [MemPlace.row])).1, ?_, ?_, ?_⟩
  all_goals (rintro rfl; simp [MemPlace.row] at hnd)

/-- The law's walk, at every input. -/
theorem law_any (F : Interp) (lf ty trunc limit : Int) (ba : Option Addr) (bl bc : Nat) (bz : Nat → Int) (ca : Option Addr) (cl cc : Nat) (cz : Nat → Int) (fail : Bool) (p0 p1 p2 : Addr) (w : World) (hF : F.answers w.tape)
    (l0 : 0 ≤ lf) (l1 : lf < 4294967296) (t0 : 0 ≤ ty) (t1 : ty < 256) (r0 : 0 ≤ trunc) (r1 : trunc < 4294967296) (hB : Ck w ba bl bz) (hC : Ck w ca cl cz) (V : Vars p0 p1 p2 w) :
    Calls Ybaf.prog 3 #[.int .u32 lf, .int .u8 ty, .slice ba bl bc, .int .u32 trunc, .slice ca cl cc, .bool fail, .int .i64 limit] w fun e w' => e = .returned (.bool true) ∧ Below w.heap.size w w' := by
  by_cases h : 1048576 < bl ∨ 1048576 < cl
  · exact law_big lf ty trunc limit ba bl bc ca cl cc fail w h
  · have hlim : ∃ lim, (1048576 < limit ∧ lim = 1048576) ∨ (limit ≤ 1048576 ∧ lim = limit) := by
      by_cases hL : 1048576 < limit
      · exact ⟨_, .inl ⟨hL, rfl⟩⟩
      · exact ⟨_, .inr ⟨by omega, rfl⟩⟩
    have hdl : ∃ dl : Nat, (trunc = 0 ∧ dl = 5 + bl) ∨ (trunc ≠ 0 ∧ (trunc - 1) % (5 + (bl : Int) + 1) = dl) := by
      by_cases hT : trunc = 0
      · exact ⟨_, .inl ⟨hT, rfl⟩⟩
      · have := Int.emod_nonneg (trunc - 1) (show 5 + (bl : Int) + 1 ≠ 0 by omega)
        exact ⟨((trunc - 1) % (5 + (bl : Int) + 1)).toNat, .inr ⟨hT, by omega⟩⟩
    obtain ⟨lim, hlim⟩ := hlim
    obtain ⟨dl, hdl⟩ := hdl
    exact law_main F lf ty trunc limit lim ba bl bc bz ca cl cc cz fail p0 p1 p2 dl w hF l0 l1 t0 t1 r0 r1 (by omega) (by omega) hB hC V hlim hdl

/-- What a slice of bytes that came in holds. -/
theorem open_bytes {H : Type} {enc : TypeId × Value → H} {W : World} {ta : Option Addr} {tl tc : Nat} {d : DataW H} {p : List MemPlace} (h4 : DataW.Trod enc Ybaf.prog W 0 (fun _ => true) true 23 (.slice ta tl tc) d p) : ∃ tz : Nat → Int, Ck W ta tl tz := by
  obtain ⟨fuel, hf⟩ := h4
  rcases open_ints Ybaf.underlying23 Ybaf.underlying5 (by kernel_rfl) hf with ⟨hcs, _⟩ | ⟨x, l, c, zs, hcs, _, hl, hm, hz, _, hcell, hwz⟩
  · simp [Value.cells] at hcs
    obtain ⟨rfl, rfl, rfl⟩ := hcs
    exact ⟨fun _ => 0, .inl rfl, fun _ => ⟨by show (0 : Int) ≤ 0; omega, by show (0 : Int) < 256; omega⟩⟩
  · simp [Value.cells] at hcs
    obtain ⟨rfl, rfl, rfl⟩ := hcs
    have hz' : zs.length = tc := by simpa using hz
    refine ⟨fun i => zs.getD i 0, ?_, fun i => ?_⟩
    · rcases Nat.eq_zero_or_pos tl with h | h
      · exact .inl h
      · obtain ⟨b, off, rfl, hc⟩ := ints_at hcell (by omega)
        exact .inr ⟨h, b, off, rfl, fun i hi => hc i (by omega)⟩
    · have := range_u8 hwz i
      simp only [List.getD_eq_getElem?_getD]
      omega

/-- The input at which the premises are shown to be met. -/
abbrev args0 : Array Value := #[.int .u32 0, .int .u8 0, .slice none 0 0, .int .u32 0, .slice none 0 0, .bool false, .int .i64 0]
abbrev specO : OpenSpec := OpenSpec.ofChange Rows.lawS5560AWholeSpec
theorem witness_row (os : Os) {H : Type} (enc : TypeId × Value → H) :
    specO.preRow enc Ybaf.prog Ybaf.f3 [] false laidL ((World.doorLaid Ybaf.prog 400 os).forCall (fun _ _ => 0) ⟨#[], args0, []⟩).memory args0 :=
  OpenSpec.preRow_of_B rfl 8 (by kernel_rfl) (by kernel_rfl) (door_met os _)

set_option maxRecDepth 100000 in
theorem lifted (os : Os) (started : os.Started) (H : Type) (enc : TypeId × Value → H) :
    ReturnsInTold none {} Ybaf.checked os 3 .any Input.okWide (specO.preRow enc Ybaf.prog Ybaf.f3 [] false laidL) (fun F => (specO.at F).post enc Ybaf.prog Ybaf.f3 false true false false) (aloneAtReturn Ybaf.prog) nothingAlways := by
  refine returnsInTold_of_row (C := Ybaf.checked) (s := specO) (by kernel_rfl) own started (by kernel_rfl) Ybaf.func3
    (OpenSpec.witness_stopped_atRef (enc := enc) (C := Ybaf.checked) false (World.doorLaid Ybaf.prog 400 os) args0 rfl (by kernel_rfl) (by kernel_rfl) (by kernel_rfl) (witness_row os enc)) ?_
  intro F W base args ds gs before _ hF hval0 hW _ _ _ hL _
  have hval : ∀ (j : Nat) t v, Ybaf.f3.params[j]? = some t → args[j]? = some v → Value.okWide Ybaf.prog W .any base t v := hval0
  have hW' := hW
  obtain ⟨p, q, hA0, hV0, rfl, hfz, hnd⟩ := hW
  have hA : DataW.TrodAll enc Ybaf.prog W 0 (fun _ => true) true Ybaf.f3.params.toList args.toList ds p := hA0
  have hV : DataW.TrodVars enc Ybaf.prog W (fun _ => true) [eN] gs q := hV0
  rw [Ybaf.params3] at hA hval
  obtain ⟨v0, vs0, d0, ds0, p0, q0, hargs, rfl, rfl, h0, s0⟩ := trodAll_cons hA
  obtain ⟨v1, vs1, d1, ds1, p1, q1, rfl, rfl, rfl, h1, s1⟩ := trodAll_cons s0
  obtain ⟨v2, vs2, d2, ds2, p2, q2, rfl, rfl, rfl, h2, s2⟩ := trodAll_cons s1
  obtain ⟨v3, vs3, d3, ds3, p3, q3, rfl, rfl, rfl, h3, s3⟩ := trodAll_cons s2
  obtain ⟨v4, vs4, d4, ds4, p4, q4, rfl, rfl, rfl, h4, s4⟩ := trodAll_cons s3
  obtain ⟨v5, vs5, d5, ds5, p5, q5, rfl, rfl, rfl, h5, s5⟩ := trodAll_cons s4
  obtain ⟨v6, vs6, d6, ds6, p6, q6, rfl, rfl, rfl, h6, s6⟩ := trodAll_cons s5
  obtain ⟨rfl, rfl, rfl⟩ := trodAll_nil s6
  obtain rfl : args = #[v0, v1, v2, v3, v4, v5, v6] := by cases args; simp_all
  obtain ⟨a0, rfl, rfl, rfl, w0⟩ := open_int Ybaf.underlying22 (hval 0 22 v0 rfl rfl) h0
  obtain ⟨a1, rfl, rfl, rfl, w1⟩ := open_int Ybaf.underlying5 (hval 1 5 v1 rfl rfl) h1
  obtain ⟨ba, bl, bc, rfl⟩ := okWide_slice Ybaf.underlying23 (hval 2 23 v2 rfl rfl)
  obtain ⟨a3, rfl, rfl, rfl, w3⟩ := open_int Ybaf.underlying22 (hval 3 22 v3 rfl rfl) h3
  obtain ⟨ca, cl, cc, rfl⟩ := okWide_slice Ybaf.underlying23 (hval 4 23 v4 rfl rfl)
  obtain ⟨a5, rfl, rfl, rfl⟩ := open_bool Ybaf.underlying4 (hval 5 4 v5 rfl rfl) h5
  obtain ⟨a6, rfl, rfl, rfl, w6⟩ := open_int Ybaf.underlying3 (hval 6 3 v6 rfl rfl) h6
  have k2 := h2
  have k4 := h4
  have lt2 : ∀ x ∈ p2, x.block < W.heap.size := by obtain ⟨m, hm⟩ := k2; exact DataW.trod_lt m _ _ _ hm
  have lt4 : ∀ x ∈ p4, x.block < W.heap.size := by obtain ⟨m, hm⟩ := k4; exact DataW.trod_lt m _ _ _ hm
  obtain ⟨bz, hB⟩ := open_bytes h2
  obtain ⟨cz, hC⟩ := open_bytes h4
  rw [MakeChecks.laidMetH_plain _ _ _ (by kernel_rfl)] at hL
  obtain ⟨e1, e2, e0, hv1, hv2, hv0, hs0, hb1, hb2, hb0, n12, n10, n20⟩ := laid3 hL.tail g1N g2N g0N g1T g2T g0T
  obtain ⟨rfl, rfl⟩ := hV.unique (vars_read1 enc g0N g0T Ybaf.underlying27 hv0 trivial _)
  have c0 : W.cell? ⟨0, 0, none⟩ = some (.iface 40 (.pointer (some e0))) := by simpa using World.var?_cell g0N hv0 0
  have c1 : W.cell? ⟨1, 0, none⟩ = some (.iface 40 (.pointer (some e1))) := by simpa using World.var?_cell g1N hv1 0
  have c2 : W.cell? ⟨2, 0, none⟩ = some (.iface 40 (.pointer (some e2))) := by simpa using World.var?_cell g2N hv2 0
  clear hA0 hV0 hval0
  have b0 := bounds_u32 w0
  have b1 := bounds_u8 w1
  have b3 := bounds_u32 w3
  refine (law_any F.told a0 a1 a3 a6 ba bl bc bz ca cl cc cz a5 e0 e1 e2 W hF (by omega) (by omega) (by omega) (by omega) (by omega) (by omega) hB hC ⟨c0, c1, c2, hs0, hb0, hb1, hb2, n10.symm, n20.symm, n12⟩).mono fun e W' ⟨he, bel⟩ => ?_
  subst he
  exact ⟨_, rfl, _, _, _, [], _, [.cell 0 0], hW', trodAll_mk1 (shut_bool Ybaf.underlying4 _), (trodAll_cons_mk (shut_int Ybaf.underlying22 w0) (trodAll_cons_mk (shut_int Ybaf.underlying5 w1) (trodAll_cons_mk (Below.trod laidOut (by kernel_rfl) (of_decide_eq_true (by kernel_rfl)) k2 bel lt2) (trodAll_cons_mk (shut_int Ybaf.underlying22 w3) (trodAll_cons_mk (Below.trod laidOut (by kernel_rfl) (of_decide_eq_true (by kernel_rfl)) k4 bel lt4) (trodAll_cons_mk (shut_bool Ybaf.underlying4 _) (trodAll_cons_mk (shut_int Ybaf.underlying3 w6) trodAll_mk0))))))), vars_read1 enc g0N g0T Ybaf.underlying27 (var?_below bel g0N (World.block_lt_of_cell? W _ c0) hv0) trivial _, bel.frame _, fun h => by cases h⟩

theorem stopKnobs : Ybaf.pinned.checked.prog.stopKnobs = [] := by kernel_rfl
theorem quietAny (os : Os) : Stop.quiet Ybaf.pinned.checked.prog os := by
  intro k hk
  rw [stopKnobs] at hk
  cases hk
theorem stops : Rows.lawS5560AWholeRow.stops = Ybaf.pinned.checked.prog.stops := by kernel_rfl

/-- THE STATEMENT: the told and tied card. -/
theorem proved : Rows.LawS5560AWholeToldSaid :=
  Claim7.holds_of_told_tied_any_at .later 3 Ybaf.f3 _ _ [] _ _ _ _ _ (by kernel_rfl) rfl rfl rfl laidOut (by kernel_rfl) rfl ⟨rfl, rfl, rfl, rfl, rfl, rfl, rfl⟩ rfl rfl (by kernel_rfl) (by kernel_rfl) Ybaf.func3 (by kernel_rfl)
    (of_decide_eq_true (by kernel_rfl)) (of_decide_eq_true (by kernel_rfl)) stops rfl stopKnobs.symm (by kernel_rfl)
    (by kernel_rfl) (by kernel_rfl) (by kernel_rfl) (by kernel_rfl) (by kernel_rfl) (by kernel_rfl) (by kernel_rfl) (by kernel_rfl) (by kernel_rfl) rfl (by kernel_rfl) rfl rfl
    rfl rfl
    rfl (by kernel_rfl) (by kernel_rfl) (by kernel_rfl) (by decide) (by kernel_rfl) lawS5560AWhole_row_tie
    (OpenClaim.moreEntering_of (by kernel_rfl) (by kernel_rfl) (by kernel_rfl) (by kernel_rfl) (by kernel_rfl) (by kernel_rfl) (by kernel_rfl) (by kernel_rfl) (by kernel_rfl) (by kernel_rfl))
    ⟨_, WideRow.started_initial, quietAny _⟩
    (fun os started _ H enc _ => lifted os started H enc)
#print axioms proved
end Go.Proofs.YbulkdkcwFmt
