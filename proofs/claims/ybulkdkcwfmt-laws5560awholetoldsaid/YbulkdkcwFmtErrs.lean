import Derived.Test.YbulkdkcwFmtFacts
import Derived.WalkKit
import Derived.WalkSpells
import Derived.BigCall
import Derived.Below
import Derived.WalkSmall
namespace Go.Proofs.YbulkdkcwFmt
open Go.RowKit Go.Extern.Stop Go.Stop Go.Extern

attribute [local go_sem] call18 call20 guard fmt0 fmt0r fmt1 fmt1r fmt2 fmt2r fmt3 fmt3r act32_118w isString32 str32 act2_100w op2_100w strict2 str2 op5_100 strict5 act40_119w isError40 str40 ptr40 elem40 ptr74 elem74 isError74

set_option maxHeartbeats 4000000 in
set_option maxRecDepth 100000 in
theorem string_any (F : Interp) (t : Int) (w : World) (hF : F.answers w.tape) :
    Calls Ybaf.prog 19 #[.int .u8 t] w fun e w' => ∃ s, e = .returned (.string s) ∧ Below w.heap.size w w' := by
  have hF' := answers_open hF
  go_enter Ybaf.func19, Ybaf.ntmps19
  go_wp2
  all_goals
    go_ret
    first
      | exact ⟨_, rfl, Below.refl _ _⟩
      | exact ⟨_, rfl, Below.drew ((Below.refl _ _).alloc (Nat.le_refl _) _)⟩

set_option maxHeartbeats 4000000 in
set_option maxRecDepth 100000 in
theorem errorf_head (F : Interp) (blk : Nat) (pa : Addr) (s : ByteArray) (w : World) (hF : F.answers w.tape)
    (hc0 : w.cell? ⟨blk, 0, none⟩ = some (.iface 40 (.pointer (some pa)))) (hs : w.cell? pa = some (.string s)) :
    Calls Ybaf.prog 14 #[.string fHead, .slice (some ⟨blk, 0, none⟩) 1 1] w fun e w' =>
      ∃ x, e = .returned (.iface 74 (.pointer (some ⟨w.heap.size, 0, none⟩))) ∧ w' = (w.alloc (.cells #[.string x, .iface 40 (.pointer (some pa))] 102)).drew := by
  have hF' := answers_open hF
  have hop := fun name => opPlain40_119w name pa s w hs
  go_enter Ybaf.func14, Ybaf.ntmps14
  go_wp2
  apply rows_value nextTurns
  case hr =>
    go_simp
    exact ⟨rfl, rfl⟩
  case h =>
    go_wp2
    go_ret
    exact ⟨_, rfl, rfl⟩

set_option maxHeartbeats 4000000 in
set_option maxRecDepth 100000 in
theorem errorf_pay (F : Interp) (blk : Nat) (t : Int) (pa : Addr) (s : ByteArray) (w : World) (hF : F.answers w.tape)
    (hc0 : w.cell? ⟨blk, 0, none⟩ = some (.iface 32 (.int .u8 t))) (hc1 : w.cell? ⟨blk, 1, none⟩ = some (.iface 40 (.pointer (some pa)))) (hs : w.cell? pa = some (.string s)) :
    Calls Ybaf.prog 14 #[.string fPay, .slice (some ⟨blk, 0, none⟩) 2 2] w fun e w' =>
      ∃ w₃ x, Below w.heap.size w w₃ ∧ e = .returned (.iface 74 (.pointer (some ⟨w₃.heap.size, 0, none⟩))) ∧ w' = (w₃.alloc (.cells #[.string x, .iface 40 (.pointer (some pa))] 102)).drew := by
  have hF' := answers_open hF
  have hb : blk < w.heap.size := World.block_lt_of_cell? _ _ hc0
  have hp : pa.block < w.heap.size := World.block_lt_of_cell? _ _ hs
  go_enter Ybaf.func14, Ybaf.ntmps14
  go_wp2
  apply rows_call nextTurns
  case hr =>
    go_simp
    exact ⟨⟨rfl, rfl, rfl⟩, rfl⟩
  case hi => exact invokeString32 _ _
  case hc =>
    refine (string_any F t _ hF).mono fun e w₃ ⟨sx, he, hx⟩ => ?_
    subst he
    have hF3 := answers_open (show F.answers w₃.tape by rw [hx.tape]; exact hF)
    have hc03 : w₃.cell? ⟨blk, 0, none⟩ = some (.iface 32 (.int .u8 t)) := by rw [hx.cell hb]; exact hc0
    have hc13 : w₃.cell? ⟨blk, 1, none⟩ = some (.iface 40 (.pointer (some pa))) := by rw [hx.cell hb]; exact hc1
    have hs3 : w₃.cell? pa = some (.string s) := by rw [hx.cell hp]; exact hs
    have hop := fun name => opPlain40_119w name pa s w₃ hs3
    apply rows_value nextReturned
    case hr =>
      go_simp
      exact ⟨rfl, rfl⟩
    case h =>
      go_wp2
      go_ret
      exact ⟨w₃, _, hx, rfl, rfl⟩

set_option maxHeartbeats 4000000 in
set_option maxRecDepth 100000 in
theorem errorf_len (F : Interp) (blk : Nat) (t n l : Int) (pa : Addr) (s : ByteArray) (w : World) (hF : F.answers w.tape)
    (hc0 : w.cell? ⟨blk, 0, none⟩ = some (.iface 40 (.pointer (some pa)))) (hc1 : w.cell? ⟨blk, 1, none⟩ = some (.iface 32 (.int .u8 t)))
    (hc2 : w.cell? ⟨blk, 2, none⟩ = some (.iface 2 (.int .i64 n))) (hc3 : w.cell? ⟨blk, 3, none⟩ = some (.iface 2 (.int .i64 l))) (hs : w.cell? pa = some (.string s)) :
    Calls Ybaf.prog 14 #[.string fLen, .slice (some ⟨blk, 0, none⟩) 4 4] w fun e w' =>
      ∃ w₃ x, Below w.heap.size w w₃ ∧ e = .returned (.iface 74 (.pointer (some ⟨w₃.heap.size, 0, none⟩))) ∧ w' = (w₃.alloc (.cells #[.string x, .iface 40 (.pointer (some pa))] 102)).drew := by
  have hF' := answers_open hF
  have hb : blk < w.heap.size := World.block_lt_of_cell? _ _ hc0
  have hp : pa.block < w.heap.size := World.block_lt_of_cell? _ _ hs
  have hop0 := fun name => opPlain40_119w name pa s w hs
  go_enter Ybaf.func14, Ybaf.ntmps14
  go_wp2
  apply rows_call nextTurns
  case hr =>
    go_simp
    exact ⟨⟨rfl, rfl, rfl⟩, rfl⟩
  case hi => exact invokeString32 _ _
  case hc =>
    refine (string_any F t _ hF).mono fun e w₃ ⟨sx, he, hx⟩ => ?_
    subst he
    have hF3 := answers_open (show F.answers w₃.tape by rw [hx.tape]; exact hF)
    have hc03 : w₃.cell? ⟨blk, 0, none⟩ = some (.iface 40 (.pointer (some pa))) := by rw [hx.cell hb]; exact hc0
    have hc13 : w₃.cell? ⟨blk, 1, none⟩ = some (.iface 32 (.int .u8 t)) := by rw [hx.cell hb]; exact hc1
    have hc23 : w₃.cell? ⟨blk, 2, none⟩ = some (.iface 2 (.int .i64 n)) := by rw [hx.cell hb]; exact hc2
    have hc33 : w₃.cell? ⟨blk, 3, none⟩ = some (.iface 2 (.int .i64 l)) := by rw [hx.cell hb]; exact hc3
    have hs3 : w₃.cell? pa = some (.string s) := by rw [hx.cell hp]; exact hs
    have hop := fun name => opPlain40_119w name pa s w₃ hs3
    apply rows_value nextReturned
    case hr =>
      go_simp
      exact ⟨rfl, rfl⟩
    case h =>
      go_wp2
      go_ret
      exact ⟨w₃, _, hx, rfl, rfl⟩
end Go.Proofs.YbulkdkcwFmt
