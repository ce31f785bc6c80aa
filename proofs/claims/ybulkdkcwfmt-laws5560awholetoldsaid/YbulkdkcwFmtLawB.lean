import Derived.Test.YbulkdkcwFmtLawA
namespace Go.Proofs.YbulkdkcwFmt
open Go.RowKit Go.Stop
attribute [local go_sem ↓] Go.wp_at_zero Go.wp_at_succ

/-- ReadFrame answers a plain error at p; the reader stands at pos. -/
def Plain (N db dl dc pos : Nat) (ca : Option Addr) (cl cc : Nat) (fail : Bool) (pm p : Addr) (w : World) (e : Ending) (w' : World) : Prop :=
  ∃ k', e = .returned (.tuple #[frame0, .iface 40 (.pointer (some p))]) ∧ Rd w' N db dl dc pos k' ca cl cc fail pm ∧ But N w w'
/-- ReadFrame answers an error that wraps p; the reader stands at pos. -/
def Packed (N db dl dc pos : Nat) (ca : Option Addr) (cl cc : Nat) (fail : Bool) (pm p : Addr) (w : World) (e : Ending) (w' : World) : Prop :=
  ∃ k' x, e = .returned (.tuple #[frame0, x]) ∧ Wraps w.heap.size w' p x ∧ Rd w' N db dl dc pos k' ca cl cc fail pm ∧ But N w w'

theorem frame_eof {N : Nat} {p0 p1 p2 pm : Addr} {db dl : Nat} {D : Nat → Int} {ca : Option Addr} {cl : Nat} {cz : Nat → Int} (dc cc : Nat) (lim : Int) (w : World)
    (G : Gl N p0 p1 p2 pm db dl D ca cl cz w) (hR : Rd w N db dl dc 0 0 ca cl cc false pm) (hN : N < w.heap.size) (hdl : dl < 5) (hdc : dl ≤ dc) (hcl2 : cl ≤ 1073741824) :
    Calls Ybaf.prog 5 #[.iface 29 (.pointer (some ⟨N, 0, none⟩)), .int .i64 lim] w (Plain N db dl dc dl ca cl cc false pm (shortE false p1 p2 pm dl) w) := by
  have h := head_eof dc cc lim (w.alloc cell34) (G.below ((Below.refl w.heap.size w).alloc (Nat.le_refl _) _) (by omega)) (hR.keep (Below.heap_alloc _ _ _ hN)) (by simp; omega) hdl hdc hcl2
  refine (frame_head (pm := pm) (db := db) (dl := dl) (ca := ca) (cl := cl) dc cc dl false lim w (fun tx vx _ => tx = 40 ∧ vx = .pointer (some (shortE false p1 p2 pm dl))) hN (h.mono ?_)).mono ?_
  · rintro e w' ⟨k', rfl, hr, hb⟩
    exact ⟨k', _, _, rfl, ⟨rfl, rfl⟩, hr, hb⟩
  · rintro e w' ⟨k', tx, vx, w0, rfl, ⟨rfl, rfl⟩, _, hr, hb⟩
    exact ⟨k', rfl, hr, hb⟩

theorem frame_packed {N : Nat} {pm p : Addr} {db dl : Nat} {ca : Option Addr} {cl : Nat} (dc cc pos : Nat) (fail : Bool) (lim : Int) (w : World) (hN : N < w.heap.size)
    (h : Calls Ybaf.prog 9 #[.iface 29 (.pointer (some ⟨N, 0, none⟩)), .int .i64 lim] (w.alloc cell34) fun e w' => ∃ k' x, e = .returned (.tuple #[.int .u8 0, .int .i64 0, x]) ∧ Wraps (w.alloc cell34).heap.size w' p x ∧
      Rd w' N db dl dc pos k' ca cl cc fail pm ∧ But N (w.alloc cell34) w') :
    Calls Ybaf.prog 5 #[.iface 29 (.pointer (some ⟨N, 0, none⟩)), .int .i64 lim] w (Packed N db dl dc pos ca cl cc fail pm p w) := by
  refine (frame_head (pm := pm) (db := db) (dl := dl) (ca := ca) (cl := cl) dc cc pos fail lim w (fun tx vx w0 => Wraps (w.alloc cell34).heap.size w0 p (.iface tx vx)) hN (h.mono ?_)).mono ?_
  · rintro e w' ⟨k', x, rfl, ⟨b, hb1, rfl, hb2⟩, hr, hb⟩
    exact ⟨k', _, _, rfl, ⟨b, hb1, rfl, hb2⟩, hr, hb⟩
  · rintro e w' ⟨k', tx, vx, w0, rfl, ⟨b, hb1, hx, hb2⟩, rfl, hr, hb⟩
    have hb3 : w.heap.size < b := by simp at hb1; omega
    refine ⟨k', _, rfl, ⟨b, by omega, hx, ?_⟩, hr, hb⟩
    refine ((World.cell?_of_block (Below.heap_setCell _ _ _ _ ?_)).trans (World.cell?_of_block (Below.heap_setCell _ _ _ _ ?_))).trans hb2
    all_goals (simp; omega)

theorem frame_fail (F : Interp) {N : Nat} {p0 p1 p2 pm : Addr} {db dl : Nat} {D : Nat → Int} {ca : Option Addr} {cl : Nat} {cz : Nat → Int} (dc cc : Nat) (lim : Int) (w : World) (hF : F.answers w.tape)
    (G : Gl N p0 p1 p2 pm db dl D ca cl cz w) (hR : Rd w N db dl dc 0 0 ca cl cc true pm) (hN : N < w.heap.size) (hdl : dl < 5) (hdc : dl ≤ dc) (hcl2 : cl ≤ 1073741824) :
    Calls Ybaf.prog 5 #[.iface 29 (.pointer (some ⟨N, 0, none⟩)), .int .i64 lim] w (Packed N db dl dc dl ca cl cc true pm pm w) :=
  frame_packed dc cc dl true lim w hN (head_fail F dc cc lim (w.alloc cell34) hF (G.below ((Below.refl w.heap.size w).alloc (Nat.le_refl _) _) (by omega)) (hR.keep (Below.heap_alloc _ _ _ hN)) (by simp; omega) hdl hdc hcl2)

theorem frame_large (F : Interp) {N : Nat} {p0 p1 p2 pm : Addr} {db dl : Nat} {D : Nat → Int} {ca : Option Addr} {cl : Nat} {cz : Nat → Int} (dc cc : Nat) (fail : Bool) (lim n : Int) (w : World) (hF : F.answers w.tape)
    (G : Gl N p0 p1 p2 pm db dl D ca cl cz w) (hR : Rd w N db dl dc 0 0 ca cl cc fail pm) (hN : N < w.heap.size) (hdl : 5 ≤ dl) (hd2 : dl ≤ 1073741824) (hdc : dl ≤ dc) (hcl2 : cl ≤ 1073741824)
    (hn : be32 (D 0) (D 1) (D 2) (D 3) = n) (hl : lim < n) :
    Calls Ybaf.prog 5 #[.iface 29 (.pointer (some ⟨N, 0, none⟩)), .int .i64 lim] w (Packed N db dl dc 5 ca cl cc fail pm p0 w) :=
  frame_packed dc cc 5 fail lim w hN (head_large F dc cc fail lim n (w.alloc cell34) hF (G.below ((Below.refl w.heap.size w).alloc (Nat.le_refl _) _) (by omega)) (hR.keep (Below.heap_alloc _ _ _ hN)) (by simp; omega) hdl hd2 hdc hcl2 hn hl)

/-- What the walk wants to read behind ReadFrame and the store of its frame. -/
theorem behind {N M : Nat} {p0 p1 p2 pm : Addr} {db dl : Nat} {D : Nat → Int} {ca : Option Addr} {cl : Nat} {cz : Nat → Int} {dc pos k cc : Nat} {fail : Bool} {w w' : World}
    (G : Gl N p0 p1 p2 pm db dl D ca cl cz w) (hN : N < w.heap.size) (hb : But N w w') (hR : Rd w' N db dl dc pos k ca cl cc fail pm) (o : Obj) (hM : M ≤ N) :
    Gl N p0 p1 p2 pm db dl D ca cl cz (w'.alloc o) ∧ (w'.alloc o).cell? ⟨N, 1, none⟩ = some (.int .i64 (pos : Int)) ∧ Below M w (w'.alloc o) := by
  have hs := hb.size
  have hb2 : Below N w (w'.alloc o) := (hb.below (by omega)).alloc (by omega) o
  exact ⟨G.below hb2 (Nat.le_refl _), cell?_alloc_old o hR.2.1, hb2.mono hM⟩
end Go.Proofs.YbulkdkcwFmt
