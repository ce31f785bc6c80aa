import Derived.Test.YbulkdkciDoorLawF
namespace Go.Proofs.YbulkdkciDoor
open Go.RowKit

set_option maxRecDepth 100000 in
theorem law_big (cum rw ng nd cut : Int) (ta : Option Addr) (tl tc : Nat) (w : World) (h : 1048576 < tl) :
    Calls Ybad.prog 3 #[.int .u32 cum, .int .u32 rw, .int .u16 ng, .int .u16 nd, .slice ta tl tc, .int .u8 cut] w fun e w' => e = .returned (.bool true) ∧ Below w.heap.size w w' := by
  have hl' : (1048576 : Int) < (tl : Int) := by omega
  go_enter Ybad.func3, Ybad.ntmps3
  go_wp2
  go_ret
  exact ⟨rfl, Below.refl _ _⟩

theorem law_any (cum rw ng nd cut : Int) (ta : Option Addr) (tl tc : Nat) (tz : Nat → Int) (w : World)
    (c0 : 0 ≤ cum) (c1 : cum < 4294967296) (r0 : 0 ≤ rw) (r1 : rw < 4294967296) (g0 : 0 ≤ ng) (g1 : ng < 65536) (d0 : 0 ≤ nd) (d1 : nd < 65536) (u0 : 0 ≤ cut) (u1 : cut < 256)
    (htz : ∀ i, 0 ≤ tz i ∧ tz i < 256)
    (hT : tl = 0 ∨ 0 < tl ∧ ∃ tb tof, ta = some ⟨tb, tof, none⟩ ∧ ∀ i, i < tl → w.cell? ⟨tb, tof + i, none⟩ = some (B8 (tz i)))
    (pa : Addr) (he : w.cell? ⟨0, 0, none⟩ = some (.iface 42 (.pointer (some pa)))) :
    Calls Ybad.prog 3 #[.int .u32 cum, .int .u32 rw, .int .u16 ng, .int .u16 nd, .slice ta tl tc, .int .u8 cut] w fun e w' => e = .returned (.bool true) ∧ Below w.heap.size w w' := by
  obtain ⟨n, rfl⟩ := Int.eq_ofNat_of_zero_le g0
  obtain ⟨m, rfl⟩ := Int.eq_ofNat_of_zero_le d0
  by_cases hl : 1048576 < tl
  · exact law_big cum rw n m cut ta tl tc w hl
  by_cases hcut : cut % 4 = 0
  · exact law_short cum rw n m cut ta tl tc tz w c0 c1 r0 r1 g0 g1 d0 d1 u0 u1 (by omega) htz hT pa he hcut
  by_cases hmal : tl < 4 * (n + m)
  · exact law_mal cum rw cut n m ta tl tc tz w c0 c1 r0 r1 (by omega) (by omega) u0 u1 (by omega) htz hT pa he hcut hmal
  · exact law_ok cum rw cut n m ta tl tc tz w c0 c1 r0 r1 (by omega) (by omega) u0 u1 (by omega) htz hT pa he hcut (by omega)
end Go.Proofs.YbulkdkciDoor
