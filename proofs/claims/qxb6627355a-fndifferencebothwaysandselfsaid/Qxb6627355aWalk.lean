import Derived.Test.Qxb6627355aGroups
import Derived.Maps.AppendAt
namespace Go.Proofs.Qxb6627355a
open Go.RowKit

/-- A walk under way: J of each group are behind it. -/
structure WalkIn (w : World) (p q : Nat) (ga : Option Addr) (G gc : Nat) (s : Nat → Nat) (J : Nat → Nat) : Prop where
  ne : p ≠ q
  fst : w.cell? ⟨p, 0, none⟩ = some (.slice ga G gc)
  snd : w.cell? ⟨p, 1, none⟩ = some (.slice (some ⟨q, 0, none⟩) G G)
  row : w.rowIs q 3 G (fun i => .int .i64 ((J i * s i : Nat) : Int))
theorem WalkIn.kept {w w' : World} {p q : Nat} {ga : Option Addr} {G gc : Nat} {s J : Nat → Nat} {r : Option Nat} (h : WalkIn w p q ga G gc s J) (hg : w.grownBy w' r) (hp : some p ≠ r) (hq : some q ≠ r) : WalkIn w' p q ga G gc s J :=
  ⟨h.ne, (World.cell?_of_block (a := ⟨p, 0, none⟩) (hg.block p (cell_lt h.fst) hp)).trans h.fst, (World.cell?_of_block (a := ⟨p, 1, none⟩) (hg.block p (cell_lt h.snd) hp)).trans h.snd, h.row.of_block (hg.block q h.row.lt hq)⟩

theorem grown_refl (w : World) (r : Option Nat) : w.grownBy w r := ⟨rfl, rfl, rfl, Nat.le_refl _, fun _ _ _ => rfl⟩
theorem grown_set {w wr : World} {r : Option Nat} (h : w.grownBy wr r) {a : Addr} (ha : w.heap.size ≤ a.block ∨ r = some a.block) (v : Value) : w.grownBy (wr.setCell a v) r :=
  ⟨h.os, h.tape, h.output, by simpa [World.setCell] using h.size, fun i hi hne => by
    rw [Below.heap_setCell _ _ _ _ (by
      rcases ha with h' | h'
      · omega
      · intro e; subst e; exact hne h'.symm)]
    exact h.block i hi hne⟩
theorem grown_alloc {w wr : World} {r : Option Nat} (h : w.grownBy wr r) (o : Obj) : w.grownBy (wr.alloc o) r := h.trans (World.grownBy_alloc wr o r)
theorem grown_draw {w wr : World} {r : Option Nat} (h : w.grownBy wr r) (n : Nat) : w.grownBy (wr.drewN n) r := ⟨h.os, h.tape, h.output, h.size, h.block⟩
theorem grown_but {w wr : World} (h : w.grownBy wr none) (r : Option Nat) : w.grownBy wr r := ⟨h.os, h.tape, h.output, h.size, fun i hi _ => h.block i hi (by simp)⟩

def WalkPost (ga : Option Addr) (G gc : Nat) (s : Nat → Nat) (w : World) (e : Ending) (w' : World) : Prop :=
  ∃ p q, e = .returned (.pointer (some ⟨p, 0, none⟩)) ∧ w.heap.size ≤ p ∧ w.heap.size ≤ q ∧ WalkIn w' p q ga G gc s (fun _ => 0) ∧ Below w.heap.size w w'

set_option maxHeartbeats 1000000 in
theorem walk_calls {w : World} (ga : Option Addr) (G gc : Nat) (n : Int) (s : Nat → Nat) (hG : G ≤ 1048576) :
    Calls Try.prog 22 #[.agg #[.slice ga G gc, .int .i64 n]] w (WalkPost ga G gc s w) := by
  have hmk := run_make_row' (P := Try.prog) 22 3 (.int .i64 0) 8 Try.underlying22 Try.info3 rfl .i64 .i64 G (by omega) (by omega)
  go_enter Try.func22, Try.ntmps22
  go_wp2
  go_region
  go_wp2
  go_ret
  refine ⟨w.heap.size + 1 + 1, w.heap.size + 1, rfl, by omega, by omega, ⟨by omega, ?_, ?_, ?_⟩, ?_⟩
  · have hr := World.rowIs_alloc ((w.alloc (.cells #[.slice ga G gc, .int .i64 n] 32)).alloc (.cells (madeCells #[.int .i64 0] G) 3)) #[.slice ga G gc, .slice (some ⟨w.heap.size + 1, 0, none⟩) G G] 57 (two (.slice ga G gc) (.slice (some ⟨w.heap.size + 1, 0, none⟩) G G)) (by
      intro i hi; match i, hi with
      | 0, _ => rfl
      | 1, _ => rfl)
    simp only [World.size_alloc] at hr
    exact hr.drew.cell (i := 0) (by show 0 < 2; omega)
  · have hr := World.rowIs_alloc ((w.alloc (.cells #[.slice ga G gc, .int .i64 n] 32)).alloc (.cells (madeCells #[.int .i64 0] G) 3)) #[.slice ga G gc, .slice (some ⟨w.heap.size + 1, 0, none⟩) G G] 57 (two (.slice ga G gc) (.slice (some ⟨w.heap.size + 1, 0, none⟩) G G)) (by
      intro i hi; match i, hi with
      | 0, _ => rfl
      | 1, _ => rfl)
    simp only [World.size_alloc] at hr
    exact hr.drew.cell (i := 1) (by show 1 < 2; omega)
  · have hr := World.rowIs_made (w.alloc (.cells #[.slice ga G gc, .int .i64 n] 32)) (.int .i64 0) G 3
    simp only [World.size_alloc] at hr
    exact ((hr.alloc _).drew).congr (fun j _ => by simp)
  · exact ((((Below.refl _ _).alloc (Nat.le_refl _) _).alloc (by simp) _).alloc (by simp; omega) _).drew
end Go.Proofs.Qxb6627355a
