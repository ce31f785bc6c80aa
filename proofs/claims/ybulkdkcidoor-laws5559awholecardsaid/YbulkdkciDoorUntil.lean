/-
  A region that draws its order: loads taken first under a condition S on the world that holds UNTIL one operation t (a store that waits for those loads) is carried out. After Derived/OrdersHeld.lean, whose law asks S behind every operation.
-/
import Derived.OrdersHeld
import Derived.RegionTactic
import Derived.Deep.RegionHeld
namespace Go.Proofs.YbulkdkciDoor
open Go

section
variable {P : Program} {ops : Array Oper} {Q : Exit → Act → World → Prop} {md : Region.Mode} {S : World → Prop} {t : Nat}

/-- Whatever order is picked from here on, and S holds behind every operation but t. -/
def wpAnyT (P : Program) (md : Region.Mode) (ops : Array Oper) (Q : Exit → Act → World → Prop) (t : Nat) (S : World → Prop) : Nat → Array Bool → Act → World → Prop
  | 0, listed, a, w => Region.ready md ops listed = [] ∧ Q .normal a w
  | fuel + 1, listed, a, w =>
    (Region.ready md ops listed = [] → Q .normal a w) ∧
    ∀ i ∈ Region.ready md ops listed, wpOp P ops Q i (fun a' w' => (i ≠ t → S w') ∧ wpAnyT P md ops Q t S fuel (listed.setIfInBounds i true) a' w') a w

theorem wpAny_of_T : ∀ (fuel : Nat) (listed : Array Bool) (a : Act) (w : World), wpAnyT P md ops Q t S fuel listed a w → wpAny P md ops Q fuel listed a w
  | 0, _, _, _, h => h
  | fuel + 1, _, _, _, h => ⟨h.1, fun i hi => wpOp_mono (fun a' w' h' => wpAny_of_T fuel _ a' w' h'.2) (h.2 i hi)⟩

/-- Number t waits for number i. -/
def waits (md : Region.Mode) (ops : Array Oper) (t i : Nat) : Bool :=
  match ops[t]? with
  | some o => o.after.any fun e => Region.binds md e && e.on == i
  | none => false

theorem not_ready_of_waits {i : Nat} {listed : Array Bool} (hw : waits md ops t i = true) (hi : i ∈ Region.ready md ops listed) : t ∉ Region.ready md ops listed := by
  intro ht
  obtain ⟨_, o, ho, hall⟩ := mem_ready.1 ht
  unfold waits at hw
  rw [ho] at hw
  simp only [Array.any_eq_true'] at hw
  obtain ⟨e, he, hb⟩ := hw
  simp only [Bool.and_eq_true, beq_iff_eq] at hb
  have h1 := hall e he hb.1
  have h0 := (mem_ready.1 hi).1
  rw [hb.2] at h1
  rcases Nat.lt_or_ge i listed.size with h' | h'
  · simp [h'] at h0 h1; rw [h0] at h1; cases h1
  · simp [Array.getElem?_eq_none h'] at h1

theorem wpAnyT_first {i : Nat} {oi : Oper} {v : Value} (hi : ops[i]? = some oi) (hsel : ∀ (j : Nat) (o : Oper) cs b, ops[j]? = some o → o.op ≠ .select cs b)
    (hQ : ∀ c a w, Q (.panic c) (a.put oi.dst v) w → Q (.panic c) a w) (hwt : waits md ops t i = true) :
    ∀ (fuel : Nat) (listed : Array Bool) (a : Act) (w : World),
      (∀ j oj, ops[j]? = some oj → j ≠ i → listed.getD j true = false → (∀ e ∈ oj.after, Region.binds md e = true → e.on ≠ i) → oi.apart ops oj = true) →
      i ∈ Region.ready md ops listed → YieldsIf P ops S oi v a → S w →
      wpAnyT P md ops Q t S fuel (listed.setIfInBounds i true) (a.put oi.dst v) w → wpAnyT P md ops Q t S (fuel + 1) listed a w := by
  intro fuel
  induction fuel with
  | zero =>
    intro listed a w _ hr hy hS H
    refine ⟨fun h => (by rw [h] at hr; cases hr), fun j hj => ?_⟩
    by_cases hji : j = i
    · subst hji; exact hy.wpOp hi hS ⟨fun _ => hS, H⟩
    · have := ready_mono hj hji
      rw [H.1] at this
      cases this
  | succ fuel ih =>
    intro listed a w hfree hr hy hS H
    refine ⟨fun h => (by rw [h] at hr; cases hr), fun j hj => ?_⟩
    by_cases hji : j = i
    · subst hji; exact hy.wpOp hi hS ⟨fun _ => hS, H⟩
    · have hjt : j ≠ t := fun e => not_ready_of_waits hwt hr (e ▸ hj)
      have h1 := H.2 j (ready_mono hj hji)
      obtain ⟨hjun, oj, hoj, hall⟩ := mem_ready.1 hj
      have hnot : ∀ e ∈ oj.after, Region.binds md e = true → e.on ≠ i := fun e he hb heq => by
        have h1 := hall e he hb
        have h0 := (mem_ready.1 hr).1
        rw [heq] at h1
        rcases Nat.lt_or_ge i listed.size with h' | h'
        · simp [h'] at h0 h1; rw [h0] at h1; cases h1
        · simp [Array.getElem?_eq_none h'] at h1
      have h2 := wpOp_putIf hoj (hfree j oj hoj hji hjun hnot) (fun cs b => hsel i oi cs b hi) (fun cs b => hsel j oj cs b hoj) hQ hy h1
      have hfree' : ∀ k ok, ops[k]? = some ok → k ≠ i → (listed.setIfInBounds j true).getD k true = false →
          (∀ e ∈ ok.after, Region.binds md e = true → e.on ≠ i) → oi.apart ops ok = true := fun k ok hk hki hun hno => by
        refine hfree k ok hk hki ?_ hno
        by_cases hjk : j = k
        · subst hjk; exact hjun
        · rw [getD_set_ne true hjk] at hun; exact hun
      refine wpOp_mono (fun a' w' h3 => ⟨h3.2.1, ih (listed.setIfInBounds j true) a' w' hfree' (ready_mono hr (Ne.symm hji)) h3.1 (h3.2.1 hjt) ?_⟩) h2
      rw [Array.setIfInBounds_comm _ _ hji]
      exact h3.2.2

/-- Take number i first; d: where it lays its value. -/
theorem wpAnyT_take {i : Nat} (d : Option Tmp) {oi : Oper} {v : Value} {fuel : Nat} {listed : Array Bool} {a : Act} {w : World} (hi : ops[i]? = some oi) (hd : oi.dst = d)
    (hs : Region.noSelect ops = true) (hf : Region.free md ops listed i = true) (hr : (Region.ready md ops listed).contains i = true) (hwt : waits md ops t i = true)
    (hQ : ∀ c a w, Q (.panic c) (a.put d v) w → Q (.panic c) a w) (hy : YieldsIf P ops S oi v a) (hS : S w)
    (h : wpAnyT P md ops Q t S fuel (listed.setIfInBounds i true) (a.put d v) w) : wpAnyT P md ops Q t S (fuel + 1) listed a w := by
  subst hd
  exact wpAnyT_first hi (Region.noSelect_spec hs) hQ hwt fuel listed a w (Region.free_spec hi hf) (by simpa using hr) hy hS h

/-- One operation alone may come up, and it is not t. -/
theorem wpAnyT_one {i : Nat} {o : Oper} {fuel : Nat} {listed : Array Bool} {a : Act} {w : World} (hr : Region.ready md ops listed = [i]) (ho : ops[i]? = some o)
    (h : ∀ K' : Act → World → Prop, Shut (∀ a w, S w → (S w → wpAnyT P md ops Q t S fuel (listed.setIfInBounds i true) a w) → K' a w) → if Region.wanted o (yielded ops a.tmps) = true then Oper.wp P o a w K' Q else K' (a.put o.dst undef) w) :
    wpAnyT P md ops Q t S (fuel + 1) listed a w :=
  ⟨fun h0 => (by rw [hr] at h0; cases h0), fun j hj => (by
    rw [hr] at hj
    obtain rfl := List.mem_singleton.1 hj
    exact wpOp_step ho (fun K' hK => h K' (fun a w hS hW => hK a w ⟨fun _ => hS, hW hS⟩)))⟩

/-- One operation alone may come up, and it is t. -/
theorem wpAnyT_last {o : Oper} {fuel : Nat} {listed : Array Bool} {a : Act} {w : World} (hr : Region.ready md ops listed = [t]) (ho : ops[t]? = some o)
    (h : ∀ K' : Act → World → Prop, Shut (∀ a w, wpAnyT P md ops Q t S fuel (listed.setIfInBounds t true) a w → K' a w) → if Region.wanted o (yielded ops a.tmps) = true then Oper.wp P o a w K' Q else K' (a.put o.dst undef) w) :
    wpAnyT P md ops Q t S (fuel + 1) listed a w :=
  ⟨fun h0 => (by rw [hr] at h0; cases h0), fun j hj => (by
    rw [hr] at hj
    obtain rfl := List.mem_singleton.1 hj
    exact wpOp_step ho (fun K' hK => h K' (fun a w hW => hK a w ⟨fun e => absurd rfl e, hW⟩)))⟩

theorem wpAnyT_done {listed : Array Bool} {a : Act} {w : World} (hr : Region.ready md ops listed = []) (h : Q .normal a w) :
    ∀ fuel, wpAnyT P md ops Q t S fuel listed a w
  | 0 => ⟨hr, h⟩
  | _ + 1 => ⟨fun _ => h, by rw [hr]; simp⟩

/-- The beginning: S of the world behind the draw. -/
theorem wp_region_until {id : Nat} {a : Act} {w : World} (t fuel : Nat) (S : World → Prop) (hm : P.follows .mixedOrders = true) (hf : ops.size = fuel) (hS : S w.drew)
    (h : S w.drew → wpAnyT P .any ops Q t S fuel (Array.replicate fuel false) a w.drew) : (Code.region id ops true).wp P Q a w :=
  wp_region_any hm (wpAny_of_T (t := t) (S := S) _ _ _ _ (by subst hf; exact h hS))
end
end Go.Proofs.YbulkdkciDoor
