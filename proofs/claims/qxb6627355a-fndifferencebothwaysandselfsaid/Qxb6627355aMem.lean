/-
  Where numbers, bytes, rows of bytes and groups lie in memory.
-/
import Derived.Test.Qxb6627355aRows
import Derived.Test.Qxb6627355aMath
import Derived.WalkKit
import Derived.Deep.OwnRows
import Derived.Deep.Draws
namespace Go.Proofs.Qxb6627355a
open Go.RowKit

theorem cell_lt {w : World} {p : Addr} {v : Value} (h : w.cell? p = some v) : p.block < w.heap.size := World.block_lt_of_cell? _ _ h
theorem cell_keep' {w w' : World} {p : Addr} {v : Value} (h : w.cell? p = some v) (hb : Below w.heap.size w w') : w'.cell? p = some v := (hb.cell (cell_lt h)).trans h
theorem below_drewN {B : Nat} {a w : World} (h : Below B a w) (n : Nat) : Below B a (w.drewN n) := ⟨h.os, h.tape, h.output, h.size, h.block⟩

/-- n numbers. -/
def Ints (w : World) (a : Option Addr) (n : Nat) (Z : Nat → Int) : Prop :=
  ∃ b o : Nat, ∀ i, i < n → a = some ⟨b, o, none⟩ ∧ w.cell? ⟨b, o + i, none⟩ = some (.int .i64 (Z i))
/-- n bytes. -/
def Bts (w : World) (a : Option Addr) (n : Nat) (X : Nat → Int) : Prop :=
  ∃ b o : Nat, ∀ i, i < n → a = some ⟨b, o, none⟩ ∧ w.cell? ⟨b, o + i, none⟩ = some (.int .u8 (X i)) ∧ 0 ≤ X i ∧ X i ≤ 255
/-- One row of bytes in a cell. -/
def Row (w : World) (p : Addr) (n : Nat) (X : Nat → Int) : Prop :=
  ∃ (A : Option Addr) (C : Nat), w.cell? p = some (.slice A n C) ∧ n ≤ C ∧ (A = none → n = 0) ∧ Bts w A n X
/-- G rows of bytes. -/
def Rws (w : World) (a : Option Addr) (G : Nat) (L : Nat → Nat) (X : Nat → Nat → Int) : Prop :=
  ∃ b o : Nat, ∀ g, g < G → a = some ⟨b, o, none⟩ ∧ Row w ⟨b, o + g, none⟩ (L g) (X g)
/-- G groups: a size and a row each. -/
def Grs (w : World) (a : Option Addr) (G : Nat) (Z : Nat → Int) (L : Nat → Nat) (X : Nat → Nat → Int) : Prop :=
  ∃ b o : Nat, ∀ g, g < G → a = some ⟨b, o, none⟩ ∧ w.cell? ⟨b, o + g * 2, none⟩ = some (.int .i64 (Z g)) ∧ Row w ⟨b, o + g * 2 + 1, none⟩ (L g) (X g)

section
variable {w w' : World} {a : Option Addr} {n G : Nat}
theorem Ints.below {Z : Nat → Int} (h : Ints w a n Z) (hb : Below w.heap.size w w') : Ints w' a n Z := by
  obtain ⟨b, o, h⟩ := h
  exact ⟨b, o, fun i hi => ⟨(h i hi).1, cell_keep' (h i hi).2 hb⟩⟩
theorem Bts.below {X : Nat → Int} (h : Bts w a n X) (hb : Below w.heap.size w w') : Bts w' a n X := by
  obtain ⟨b, o, h⟩ := h
  exact ⟨b, o, fun i hi => ⟨(h i hi).1, cell_keep' (h i hi).2.1 hb, (h i hi).2.2⟩⟩
theorem Row.below {p : Addr} {X : Nat → Int} (h : Row w p n X) (hb : Below w.heap.size w w') : Row w' p n X := by
  obtain ⟨A, C, h1, h2, h3, h4⟩ := h
  exact ⟨A, C, cell_keep' h1 hb, h2, h3, h4.below hb⟩
theorem Rws.below {L : Nat → Nat} {X : Nat → Nat → Int} (h : Rws w a G L X) (hb : Below w.heap.size w w') : Rws w' a G L X := by
  obtain ⟨b, o, h⟩ := h
  exact ⟨b, o, fun g hg => ⟨(h g hg).1, (h g hg).2.below hb⟩⟩
theorem Grs.below {Z : Nat → Int} {L : Nat → Nat} {X : Nat → Nat → Int} (h : Grs w a G Z L X) (hb : Below w.heap.size w w') : Grs w' a G Z L X := by
  obtain ⟨b, o, h⟩ := h
  exact ⟨b, o, fun g hg => ⟨(h g hg).1, cell_keep' (h g hg).2.1 hb, (h g hg).2.2.below hb⟩⟩
theorem Bts.congr {X Y : Nat → Int} (h : Bts w a n X) (e : ∀ i, i < n → X i = Y i) : Bts w a n Y := by
  obtain ⟨b, o, h⟩ := h
  exact ⟨b, o, fun i hi => by rw [← e i hi]; exact h i hi⟩
/-- A piece of a row. -/
theorem Bts.piece {X : Nat → Int} {b o n k m : Nat} (h : ∀ i, i < n → w.cell? ⟨b, o + i, none⟩ = some (.int .u8 (X i)) ∧ 0 ≤ X i ∧ X i ≤ 255) (hk : k + m ≤ n) : Bts w (some ⟨b, o + k, none⟩) m (fun i => X (k + i)) :=
  ⟨b, o + k, fun i hi => ⟨rfl, by rw [Nat.add_assoc]; exact (h (k + i) (by omega)).1, (h (k + i) (by omega)).2⟩⟩
end

/-- Only draws. -/
def Drawn (w w' : World) : Prop := ∃ n, w' = w.drewN n
theorem Drawn.refl (w : World) : Drawn w w := ⟨0, rfl⟩
theorem Drawn.draw {w w' : World} (h : Drawn w w') (n : Nat) : Drawn w (w'.drewN n) := by
  obtain ⟨d, rfl⟩ := h
  exact ⟨d + n, by simp [World.drewN, Nat.add_assoc]⟩
theorem Drawn.one {w w' : World} (h : Drawn w w') : Drawn w w'.drew := h.draw 1
theorem Drawn.trans {a b c : World} (h : Drawn a b) (k : Drawn b c) : Drawn a c := by
  obtain ⟨d, rfl⟩ := k
  exact h.draw d
theorem Drawn.below {w w' : World} (h : Drawn w w') : Below w.heap.size w w' := by
  obtain ⟨d, rfl⟩ := h
  exact below_drewN (Below.refl _ _) d
theorem below_draw (w : World) (d : Nat) : Below w.heap.size w (w.drewN d) := below_drewN (Below.refl _ _) d
/-- A number, and only draws. -/
def NumPost (r : Int) (w : World) (e : Ending) (w' : World) : Prop := e = .returned (.int .i64 r) ∧ Drawn w w'
/-- A bool, and only draws. -/
def BoolPost (r : Bool) (w : World) (e : Ending) (w' : World) : Prop := e = .returned (.bool r) ∧ Drawn w w'
end Go.Proofs.Qxb6627355a
