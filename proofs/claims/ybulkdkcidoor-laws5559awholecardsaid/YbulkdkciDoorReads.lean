import Derived.Test.YbulkdkciDoorProg
import Derived.WalkKit
import Derived.Deep.QuietTactic
import Derived.BigQuiet
import Derived.RegionTactic
import Derived.Deep.Draws
import Derived.Lib.EndianBits
import Derived.Below
import Derived.Stop.LaidErr
import Derived.KernelRfl
namespace Go.Proofs.YbulkdkciDoor
open Go.RowKit

/-- The number that two bytes spell, the greater first. -/
def be16 (x0 x1 : Int) : Int := x0 * 256 + x1
/-- The number that four bytes spell, the greatest first. -/
def be32 (x0 x1 x2 x3 : Int) : Int := x0 * 16777216 + x1 * 65536 + x2 * 256 + x3

theorem or16 (x0 x1 : Int) (a0 : 0 ≤ x0) (b0 : x0 < 256) (a1 : 0 ≤ x1) (b1 : x1 < 256) : bits BinOp.or IntKind.u16 x1 (x0 * 256) = be16 x0 x1 := by
  rw [u16_or8 _ _ (by omega) (by omega) (by omega) (by omega) (by omega)]
  unfold be16; omega
theorem or32 (x0 x1 x2 x3 : Int) (a0 : 0 ≤ x0) (b0 : x0 < 256) (a1 : 0 ≤ x1) (b1 : x1 < 256) (a2 : 0 ≤ x2) (b2 : x2 < 256) (a3 : 0 ≤ x3) (b3 : x3 < 256) :
    bits BinOp.or IntKind.u32 (bits BinOp.or IntKind.u32 (bits BinOp.or IntKind.u32 x3 (x2 * 256)) (x1 * 65536)) (x0 * 16777216) = be32 x0 x1 x2 x3 := by
  simp (disch := omega) only [u32_or8, u32_or16, u32_or24]
  unfold be32; omega
theorem or16' (x0 x1 : Int) (a0 : 0 ≤ x0) (b0 : x0 < 256) (a1 : 0 ≤ x1) (b1 : x1 < 256) : bits BinOp.or IntKind.u16 (x0 * 256) x1 = be16 x0 x1 := by
  rw [bits_join .u16 16 (by decide) wraps_u16 8 _ _ (by omega) (by omega) (by omega) (by omega) (by omega) (by omega)]
  rfl
theorem or32' (x0 x1 x2 x3 : Int) (a0 : 0 ≤ x0) (b0 : x0 < 256) (a1 : 0 ≤ x1) (b1 : x1 < 256) (a2 : 0 ≤ x2) (b2 : x2 < 256) (a3 : 0 ≤ x3) (b3 : x3 < 256) :
    bits BinOp.or IntKind.u32 (bits BinOp.or IntKind.u32 (bits BinOp.or IntKind.u32 (x0 * 16777216) (x1 * 65536)) (x2 * 256)) x3 = be32 x0 x1 x2 x3 := by
  rw [bits_join .u32 32 (by decide) wraps_u32 24 (x0 * 16777216) (x1 * 65536) (by omega) (by omega) (by omega) (by omega) (by omega) (by omega),
    bits_join .u32 32 (by decide) wraps_u32 16 _ (x2 * 256) (by omega) (by omega) (by omega) (by omega) (by omega) (by omega),
    bits_join .u32 32 (by decide) wraps_u32 8 _ x3 (by omega) (by omega) (by omega) (by omega) (by omega) (by omega)]
  rfl
theorem ret_int {k : IntKind} {a b : Int} (h : a = b) : Ending.returned (.int k a) = .returned (.int k b) := by rw [h]

set_option maxHeartbeats 4000000 in
set_option maxRecDepth 100000 in
theorem u16_calls (g o n c : Nat) (x0 x1 : Int) (w : World) (hn : 2 ≤ n) (a0 : 0 ≤ x0) (b0 : x0 < 256) (a1 : 0 ≤ x1) (b1 : x1 < 256)
    (c0 : w.cell? ⟨g, o, none⟩ = some (.int .u8 x0)) (c1 : w.cell? ⟨g, o + 1, none⟩ = some (.int .u8 x1)) :
    Calls Ybad.prog 8 #[.agg #[], .slice (some ⟨g, o, none⟩) n c] w fun e w' => e = .returned (.int .u16 (be16 x0 x1)) ∧ ∃ q, w' = (w.alloc (.cells #[] 39)).drewN q := by
  have e0 : (w.alloc (.cells #[] 39)).drew.cell? ⟨g, o, none⟩ = some (.int .u8 x0) := cell?_alloc_old (.cells #[] 39) c0
  have e1 : (w.alloc (.cells #[] 39)).drew.cell? ⟨g, o + 1, none⟩ = some (.int .u8 x1) := cell?_alloc_old (.cells #[] 39) c1
  have d0 := cell?_alloc_old (.cells #[] 39) c0
  have d1 := cell?_alloc_old (.cells #[] 39) c1
  go_enter Ybad.func8, Ybad.ntmps8
  go_wp2
  go_quiet (fail)
  go_wp2
  go_ret
  exact ⟨ret_int (or16 x0 x1 a0 b0 a1 b1), _, rfl⟩

set_option maxHeartbeats 4000000 in
set_option maxRecDepth 100000 in
theorem u32_calls (g o n c : Nat) (x0 x1 x2 x3 : Int) (w : World) (hn : 4 ≤ n) (a0 : 0 ≤ x0) (b0 : x0 < 256) (a1 : 0 ≤ x1) (b1 : x1 < 256) (a2 : 0 ≤ x2) (b2 : x2 < 256) (a3 : 0 ≤ x3) (b3 : x3 < 256)
    (c0 : w.cell? ⟨g, o, none⟩ = some (.int .u8 x0)) (c1 : w.cell? ⟨g, o + 1, none⟩ = some (.int .u8 x1)) (c2 : w.cell? ⟨g, o + 2, none⟩ = some (.int .u8 x2)) (c3 : w.cell? ⟨g, o + 3, none⟩ = some (.int .u8 x3)) :
    Calls Ybad.prog 7 #[.agg #[], .slice (some ⟨g, o, none⟩) n c] w fun e w' => e = .returned (.int .u32 (be32 x0 x1 x2 x3)) ∧ ∃ q, w' = (w.alloc (.cells #[] 39)).drewN q := by
  have e0 : (w.alloc (.cells #[] 39)).drew.cell? ⟨g, o, none⟩ = some (.int .u8 x0) := cell?_alloc_old (.cells #[] 39) c0
  have e1 : (w.alloc (.cells #[] 39)).drew.cell? ⟨g, o + 1, none⟩ = some (.int .u8 x1) := cell?_alloc_old (.cells #[] 39) c1
  have e2 : (w.alloc (.cells #[] 39)).drew.cell? ⟨g, o + 2, none⟩ = some (.int .u8 x2) := cell?_alloc_old (.cells #[] 39) c2
  have e3 : (w.alloc (.cells #[] 39)).drew.cell? ⟨g, o + 3, none⟩ = some (.int .u8 x3) := cell?_alloc_old (.cells #[] 39) c3
  have d0 := cell?_alloc_old (.cells #[] 39) c0
  have d1 := cell?_alloc_old (.cells #[] 39) c1
  have d2 := cell?_alloc_old (.cells #[] 39) c2
  have d3 := cell?_alloc_old (.cells #[] 39) c3
  go_enter Ybad.func7, Ybad.ntmps7
  go_wp2
  go_quiet (fail)
  go_wp2
  go_ret
  exact ⟨ret_int (or32 x0 x1 x2 x3 a0 b0 a1 b1 a2 b2 a3 b3), _, rfl⟩

set_option maxHeartbeats 4000000 in
set_option maxRecDepth 100000 in
theorem be16_calls (g o n c : Nat) (i : Int) (x0 x1 : Int) (w : World) (hi : 0 ≤ i) (hn : i + 1 < n) (hm : n ≤ 9223372036854775807) (a0 : 0 ≤ x0) (b0 : x0 < 256) (a1 : 0 ≤ x1) (b1 : x1 < 256)
    (c0 : w.cell? ⟨g, o + i.toNat, none⟩ = some (.int .u8 x0)) (c1 : w.cell? ⟨g, o + (i + 1).toNat, none⟩ = some (.int .u8 x1)) :
    Calls Ybad.prog 5 #[.slice (some ⟨g, o, none⟩) n c, .int .i64 i] w fun e w' => e = .returned (.int .u16 (be16 x0 x1)) ∧ ∃ q, w' = w.drewN q := by
  go_enter Ybad.func5, Ybad.ntmps5
  go_wp2
  go_quiet (fail)
  go_wp2
  go_ret
  exact ⟨ret_int (or16' x0 x1 a0 b0 a1 b1), _, rfl⟩

set_option maxHeartbeats 4000000 in
set_option maxRecDepth 100000 in
theorem be32_calls (g o n c : Nat) (i : Int) (x0 x1 x2 x3 : Int) (w : World) (hi : 0 ≤ i) (hn : i + 3 < n) (hm : n ≤ 9223372036854775807) (a0 : 0 ≤ x0) (b0 : x0 < 256) (a1 : 0 ≤ x1) (b1 : x1 < 256) (a2 : 0 ≤ x2) (b2 : x2 < 256) (a3 : 0 ≤ x3) (b3 : x3 < 256)
    (c0 : w.cell? ⟨g, o + i.toNat, none⟩ = some (.int .u8 x0)) (c1 : w.cell? ⟨g, o + (i + 1).toNat, none⟩ = some (.int .u8 x1)) (c2 : w.cell? ⟨g, o + (i + 2).toNat, none⟩ = some (.int .u8 x2)) (c3 : w.cell? ⟨g, o + (i + 3).toNat, none⟩ = some (.int .u8 x3)) :
    Calls Ybad.prog 6 #[.slice (some ⟨g, o, none⟩) n c, .int .i64 i] w fun e w' => e = .returned (.int .u32 (be32 x0 x1 x2 x3)) ∧ ∃ q, w' = w.drewN q := by
  go_enter Ybad.func6, Ybad.ntmps6
  go_wp2
  go_quiet (fail)
  go_wp2
  go_ret
  exact ⟨ret_int (or32' x0 x1 x2 x3 a0 b0 a1 b1 a2 b2 a3 b3), _, rfl⟩
end Go.Proofs.YbulkdkciDoor
