import Derived.Test.YbulkdkciDoorRows
import Derived.Test.YbulkdkciDoorCards
import Derived.Test.YbulkdkciDoorTie
import Derived.Test.YbulkdkciDoorLawA
import Derived.ProofKit
import Derived.OpenShut
import Derived.LaidMore
import Derived.Stop.LaidErr
import Derived.Stop.Joined
import Derived.SevenTiedAt
import Derived.Below
namespace Go.Proofs.YbulkdkciDoor
open Go.ChangeShapes Go.WideShapes Go.ChangeAt Go.RowKit

theorem own : ownKnob Ybad.prog.godebug = none := by kernel_rfl
theorem laidOut : laidOutB Ybad.prog = true := by kernel_rfl
/-- The sentinel's name, as the specification has it. -/
abbrev eN : String := Rows.lawS5559AWholeSpec.vars.headD default
/-- The name of the dynamic type that the listed datum bears. -/
def dynOf : DataW Unit → String
  | .iface n _ => n
  | _ => default
abbrev eT : String := dynOf Rows.laid_example_com_semaprobe_semaprobe_internal_sctp_errMalformed
theorem gE : Ybad.prog.globalNamed eN = some 0 := by kernel_rfl
theorem gEType : (Ybad.prog.globals[0]?).map (·.type) = some 31 := by kernel_rfl
theorem cells61 : Ybad.prog.cellsOf 61 = 1 := by kernel_rfl
theorem cells9 : Ybad.prog.cellsOf 9 = 1 := by kernel_rfl
theorem row42 (u : TypeId) (h : Ybad.prog.typeName? 3 u = some eT) : u = 42 :=
  typeName_ptr_named (nm := "errors.errorString") (by kernel_rfl) (by kernel_rfl) (by decide) u h

abbrev laidL : List (String × DataW Unit) := Rows.lawS5559AWholeRow.laid
theorem door_met (os : Os) (args : Array Value) : laidMetH Ybad.prog laidL ((World.doorLaid Ybad.prog 400 os).forCall (fun _ _ => 0) ⟨#[], args, []⟩).memory :=
  laidMetH_of_parts3 (fuel := 8) (laidMet_of_run' 8 (by kernel_rfl) (by kernel_rfl)) (by kernel_rfl) (by kernel_rfl)

set_option maxRecDepth 100000 in
theorem lifted (os : Os) (started : os.Started) (H : Type) (enc : TypeId × Value → H) :
    ReturnsInHanded {} Ybad.checked os 3 .any (fun w args => (Rows.lawS5559AWholeSpec.pre enc Ybad.prog Ybad.f3 [] false w args ∧ laidMetH Ybad.prog laidL w) ∧ sizedMet enc Ybad.prog Ybad.f3 (OpenSpec.ofChange Rows.lawS5559AWholeSpec) false w args)
      (Rows.lawS5559AWholeSpec.post enc Ybad.prog Ybad.f3 false true false false) := by
  refine returnsInHanded_of_change_and (C := Ybad.checked) (X := fun w _ => laidMetH Ybad.prog laidL w) (fun _ _ _ hh h => h.of_heap hh) own started (by kernel_rfl) Ybad.func3
    (ChangeSpec.witness_shaped (enc := enc) (C := Ybad.checked) (os := os) (X := fun w _ => laidMetH Ybad.prog laidL w) false (World.doorLaid Ybad.prog 400 os) #[.int .u32 0, .int .u32 0, .int .u16 0, .int .u16 0, .slice none 0 0, .int .u8 0] 8 rfl (World.shaped_of_RefB (by kernel_rfl) (by kernel_rfl)) (by kernel_rfl) (by kernel_rfl) (by kernel_rfl) (door_met os _)) ?_
  intro W base args ds gs before hval0 hW _ _ hL _
  have hval : ∀ (j : Nat) t v, Ybad.f3.params[j]? = some t → args[j]? = some v → Value.okWide Ybad.prog W .any base t v := hval0
  have hW' := hW
  obtain ⟨p, q, hA0, hV0, rfl, hfz, hnd⟩ := hW
  have hA : DataW.TrodAll enc Ybad.prog W 0 (fun _ => true) true Ybad.f3.params.toList args.toList ds p := hA0
  have hV : DataW.TrodVars enc Ybad.prog W (fun _ => true) [eN] gs q := hV0
  rw [Ybad.params3] at hA hval
  obtain ⟨v0, vs0, d0, ds0, p0, q0, hargs, rfl, rfl, h0, s0⟩ := trodAll_cons hA
  obtain ⟨v1, vs1, d1, ds1, p1, q1, rfl, rfl, rfl, h1, s1⟩ := trodAll_cons s0
  obtain ⟨v2, vs2, d2, ds2, p2, q2, rfl, rfl, rfl, h2, s2⟩ := trodAll_cons s1
  obtain ⟨v3, vs3, d3, ds3, p3, q3, rfl, rfl, rfl, h3, s3⟩ := trodAll_cons s2
  obtain ⟨v4, vs4, d4, ds4, p4, q4, rfl, rfl, rfl, h4, s4⟩ := trodAll_cons s3
  obtain ⟨v5, vs5, d5, ds5, p5, q5, rfl, rfl, rfl, h5, s5⟩ := trodAll_cons s4
  obtain ⟨rfl, rfl, rfl⟩ := trodAll_nil s5
  obtain rfl : args = #[v0, v1, v2, v3, v4, v5] := by cases args; simp_all
  obtain ⟨a0, rfl, rfl, rfl, w0⟩ := open_int Ybad.underlying22 (hval 0 22 v0 rfl rfl) h0
  obtain ⟨a1, rfl, rfl, rfl, w1⟩ := open_int Ybad.underlying22 (hval 1 22 v1 rfl rfl) h1
  obtain ⟨a2, rfl, rfl, rfl, w2⟩ := open_int Ybad.underlying23 (hval 2 23 v2 rfl rfl) h2
  obtain ⟨a3, rfl, rfl, rfl, w3⟩ := open_int Ybad.underlying23 (hval 3 23 v3 rfl rfl) h3
  obtain ⟨ta, tl, tc, rfl⟩ := okWide_slice Ybad.underlying24 (hval 4 24 v4 rfl rfl)
  obtain ⟨a5, rfl, rfl, rfl, w5⟩ := open_int Ybad.underlying5 (hval 5 5 v5 rfl rfl) h5
  have k4 := h4
  have lt4 : ∀ x ∈ p4, x.block < W.heap.size := by obtain ⟨m, hm⟩ := k4; exact DataW.trod_lt m _ _ _ hm
  obtain ⟨tz, htz, hT⟩ : ∃ tz : Nat → Int, (∀ i, 0 ≤ tz i ∧ tz i < 256) ∧ (tl = 0 ∨ 0 < tl ∧ ∃ tb tof, ta = some ⟨tb, tof, none⟩ ∧ ∀ i, i < tl → W.cell? ⟨tb, tof + i, none⟩ = some (B8 (tz i))) := by
    obtain ⟨fuel, hf⟩ := h4
    rcases open_ints Ybad.underlying24 Ybad.underlying5 (by kernel_rfl) hf with ⟨hcs, _⟩ | ⟨x, l, c, zs, hcs, _, hl, hm, hz, _, hcell, hwz⟩
    · simp [Value.cells] at hcs
      obtain ⟨rfl, rfl, rfl⟩ := hcs
      exact ⟨fun _ => 0, fun _ => ⟨by show (0 : Int) ≤ 0; omega, by show (0 : Int) < 256; omega⟩, .inl rfl⟩
    · simp [Value.cells] at hcs
      obtain ⟨rfl, rfl, rfl⟩ := hcs
      have hz' : zs.length = tc := by simpa using hz
      refine ⟨fun i => zs.getD i 0, fun i => ?_, ?_⟩
      · have := range_u8 hwz i
        simp only [List.getD_eq_getElem?_getD]
        omega
      · rcases Nat.eq_zero_or_pos tl with h | h
        · exact .inl h
        · obtain ⟨b, off, rfl, hc⟩ := ints_at hcell (by omega)
          exact .inr ⟨h, b, off, rfl, fun i hi => hc i (by omega)⟩
  rw [MakeChecks.laidMetH_plain _ _ _ (by kernel_rfl)] at hL
  obtain ⟨pa, se, hv0, hc0, hs0, hz0⟩ := laid_sentinel hL gE gEType Ybad.underlying31 row42 Ybad.underlying42 Ybad.underlying61 rfl rfl Ybad.underlying9 cells61 cells9
  obtain ⟨rfl, rfl⟩ := hV.unique (vars_read1 enc gE gEType Ybad.underlying31 hv0 trivial _)
  have hg0 : W.cell? ⟨0, 0, none⟩ = some (.iface 42 (.pointer (some pa))) := by simpa using World.var?_cell gE hv0 0
  clear hA0 hV0 hval0
  have b0 := bounds_u32 w0
  have b1 := bounds_u32 w1
  have b2 := bounds_u16 w2
  have b3 := bounds_u16 w3
  have b5 := bounds_u8 w5
  refine (law_any a0 a1 a2 a3 a5 ta tl tc tz W (by omega) (by omega) (by omega) (by omega) (by omega) (by omega) (by omega) (by omega) (by omega) (by omega) htz hT pa hg0).mono fun e W' ⟨he, bel⟩ => ?_
  subst he
  exact ⟨_, rfl, _, _, _, [], _, [.cell 0 0], hW', trodAll_mk1 (shut_bool Ybad.underlying4 _), (trodAll_cons_mk (shut_int Ybad.underlying22 w0) (trodAll_cons_mk (shut_int Ybad.underlying22 w1) (trodAll_cons_mk (shut_int Ybad.underlying23 w2) (trodAll_cons_mk (shut_int Ybad.underlying23 w3) (trodAll_cons_mk (Below.trod laidOut (by kernel_rfl) (of_decide_eq_true (by kernel_rfl)) k4 bel lt4) (trodAll_cons_mk (shut_int Ybad.underlying5 w5) trodAll_mk0)))))), vars_read1 enc gE gEType Ybad.underlying31 (var?_below bel gE (World.block_lt_of_cell? W _ hg0) hv0) trivial _, bel.frame _, fun h => by cases h⟩

theorem over : Rows.LawS5559AWholeSaid :=
  OpenClaim.holds_of_wide 3 Ybad.f3 rfl rfl rfl rfl rfl rfl rfl ⟨rfl, rfl, rfl, rfl, rfl⟩ rfl rfl rfl rfl rfl (by kernel_rfl) Ybad.func3 (by kernel_rfl)
    (of_decide_eq_true (by kernel_rfl)) (by unfold Func.isWrapper; first | (rw [if_pos (by decide +kernel)]; kernel_rfl) | (rw [if_neg (by decide +kernel)]; exact ⟨rfl, rfl⟩))
    (fun os started H enc _ => lifted os started H enc)

/-- THE STATEMENT: the tied card. -/
theorem proved : Rows.LawS5559AWholeCardSaid :=
  Claim7.holds_tied_plain_at .later [] [.sentinel] true (true, "e24297492f17fcca6f83eb07dc7f51d631e061bcdf626a2c1f217eb240c8d734") true
    over (fun _ h => by cases h) (by kernel_rfl) (fun _ h => by cases h) lawS5559AWhole_row_tie rfl ⟨rfl, rfl⟩ (by kernel_rfl) rfl
    (fun f fn hf hfn => by
      obtain rfl : f = 3 := Option.some.inj ((show Ybad.prog.funcNamed Ybad.f3.name = some 3 by kernel_rfl).symm.trans hf) |>.symm
      obtain rfl : fn = Ybad.f3 := (Option.some.inj (Ybad.func3.symm.trans hfn)).symm
      exact ⟨by kernel_rfl, fun j t ht => by
        rw [Ybad.params3] at ht
        have hm : t ∈ [22, 23, 24, 5] := by
          have := Array.mem_of_getElem? ht
          simp at this ⊢
          omega
        have hall : ([22, 23, 24, 5].all fun u => !Ybad.prog.wantsStandIn u) = true := by kernel_rfl
        exact (show Ybad.prog.wantsStandIn t = false by simpa using List.all_eq_true.1 hall t hm)⟩)
    (by kernel_rfl)
#print axioms proved
end Go.Proofs.YbulkdkciDoor
