/-
  What the flows are, as plain numbers ('Inp'), and where they lie in memory ('Spots', 'Lies').
-/
import Derived.Test.Qxb6630895aRows
import Derived.WalkKit
import Derived.Test.Qxb6630895aMath
namespace Go.Proofs.Qxb6630895a
open Go.RowKit

/-- Where they lie. -/
structure Spots where
  a : Option Addr
  b : Nat
  off : Nat
  cap : Nat
  S : Nat → Int
  Bd : Nat → Int
  Li : Nat → Bool
  PA : Nat → Option Addr
  PB : Nat → Nat
  PO : Nat → Nat
  PC : Nat → Nat
  QA : Nat → Nat → Option Addr
  QB : Nat → Nat → Nat
  QO : Nat → Nat → Nat
  QC : Nat → Nat → Nat

/-- The slice of flows. -/
structure Top (w : World) (D : Inp) (s : Spots) : Prop where
  addr : ∀ i, i < D.N → s.a = some ⟨s.b, s.off, none⟩
  sent : ∀ i, i < D.N → w.cell? ⟨s.b, s.off + i * 4, none⟩ = some (.int .i64 (s.S i))
  bad : ∀ i, i < D.N → w.cell? ⟨s.b, s.off + i * 4 + 1, none⟩ = some (.int .i64 (s.Bd i))
  paths : ∀ i, i < D.N → w.cell? ⟨s.b, s.off + i * 4 + 2, none⟩ = some (.slice (s.PA i) (D.PN i) (s.PC i))
  listed : ∀ i, i < D.N → w.cell? ⟨s.b, s.off + i * 4 + 3, none⟩ = some (.bool (s.Li i))

/-- The slices of paths, and the paths. -/
structure Deepr (w : World) (D : Inp) (s : Spots) : Prop where
  paddr : ∀ i j, i < D.N → j < D.PN i → s.PA i = some ⟨s.PB i, s.PO i, none⟩
  path : ∀ i j, i < D.N → j < D.PN i → w.cell? ⟨s.PB i, s.PO i + j, none⟩ = some (.slice (s.QA i j) (D.QN i j) (s.QC i j))
  qaddr : ∀ i j q, i < D.N → j < D.PN i → q < D.QN i j → s.QA i j = some ⟨s.QB i j, s.QO i j, none⟩
  comp : ∀ i j q, i < D.N → j < D.PN i → q < D.QN i j → w.cell? ⟨s.QB i j, s.QO i j + q, none⟩ = some (.int .i32 (D.C i j q))

/-- The lengths are Go's; the components are int32. -/
structure Inp.Ok (D : Inp) : Prop where
  n : D.N ≤ 9223372036854775807
  pn : ∀ i, i < D.N → D.PN i ≤ 9223372036854775807
  qn : ∀ i j, i < D.N → j < D.PN i → D.QN i j ≤ 9223372036854775807
  c : ∀ i j q, i < D.N → j < D.PN i → q < D.QN i j → -2147483648 ≤ D.C i j q ∧ D.C i j q ≤ 2147483647

/-- A block below the heap's end: what is found in a cell. -/
theorem cell_lt {w : World} {p : Addr} {v : Value} (h : w.cell? p = some v) : p.block < w.heap.size := World.block_lt_of_cell? _ _ h

theorem Top.below {w w' : World} {D : Inp} {s : Spots} (h : Top w D s) (hb : Below w.heap.size w w') : Top w' D s :=
  ⟨h.addr, fun i hi => by rw [hb.cell (cell_lt (h.sent i hi))]; exact h.sent i hi, fun i hi => by rw [hb.cell (cell_lt (h.bad i hi))]; exact h.bad i hi,
   fun i hi => by rw [hb.cell (cell_lt (h.paths i hi))]; exact h.paths i hi, fun i hi => by rw [hb.cell (cell_lt (h.listed i hi))]; exact h.listed i hi⟩

theorem Deepr.below {w w' : World} {D : Inp} {s : Spots} (h : Deepr w D s) (hb : Below w.heap.size w w') : Deepr w' D s :=
  ⟨h.paddr, fun i j hi hj => by rw [hb.cell (cell_lt (h.path i j hi hj))]; exact h.path i j hi hj, h.qaddr,
   fun i j q hi hj hq => by rw [hb.cell (cell_lt (h.comp i j q hi hj hq))]; exact h.comp i j q hi hj hq⟩

end Go.Proofs.Qxb6630895a
