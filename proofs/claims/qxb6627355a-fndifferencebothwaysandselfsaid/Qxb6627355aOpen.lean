/-
  Slices of numbers and of rows of bytes that came in, opened.
-/
import Derived.Test.Qxb6627355aLaw3
import Derived.Deep.Matrix
import Derived.ChangeSlices
import Derived.OpenShut
namespace Go.Proofs.Qxb6627355a
open Go.RowKit Go.Deep Go.WideShapes

theorem Try.cells3 : Try.prog.cellsOf 3 = 1 := by kernel_rfl
theorem Try.cells5 : Try.prog.cellsOf 5 = 1 := by kernel_rfl
theorem Try.cells38 : Try.prog.cellsOf 38 = 1 := by kernel_rfl

theorem plain_of {W : World} {p : Addr} {v : Value} (h : W.cell? (p.add 0) = some v) : p = ⟨p.block, p.off, none⟩ := by
  have hs := World.cell?_spot h
  obtain ⟨pb, po, ps⟩ := p
  have hs' : ps = none := by simpa [Addr.add] using hs
  subst hs'
  rfl
theorem cell_plain {W : World} {p : Addr} {i : Nat} {v : Value} (hp : p = ⟨p.block, p.off, none⟩) (h : W.cell? (p.add i) = some v) : W.cell? ⟨p.block, p.off + i, none⟩ = some v := by
  rw [hp, add_plain] at h
  exact h

theorem open_sizes {H : Type} {enc : TypeId × Value → H} {W : World} {v : Value} {d : DataW H} {p : List MemPlace} (hv : ∃ a len cap, v = .slice a len cap) (h : DataW.Trod enc Try.prog W 0 (fun _ => true) true 22 v d p) :
    ∃ (a : Option Addr) (n c : Nat) (Z : Nat → Int), v = .slice a n c ∧ Ints W a n Z ∧ n ≤ 9223372036854775807 := by
  obtain ⟨a, len, cap, rfl⟩ := hv
  obtain ⟨fuel, hf⟩ := h
  rcases Go.ChangeShapes.open_ints Try.underlying22 Try.underlying3 Try.cells3 hf with ⟨hcs, _⟩ | ⟨a', len', cap', zs, hcs, _, hl, hm, hzl, _, hcell, _⟩
  · simp [Value.cells] at hcs
    obtain ⟨rfl, rfl, rfl⟩ := hcs
    exact ⟨none, 0, 0, fun _ => 0, rfl, ⟨0, 0, fun i hi => absurd hi (Nat.not_lt_zero _)⟩, Nat.zero_le _⟩
  · simp [Value.cells] at hcs
    obtain ⟨rfl, rfl, rfl⟩ := hcs
    simp only [if_true] at hzl
    unfold maxLen at hm
    refine ⟨some a', len, cap, fun i => zs.getD i 0, rfl, ⟨a'.block, a'.off, fun i hi => ?_⟩, by omega⟩
    have hp := plain_of (hcell 0 (by omega))
    exact ⟨by rw [← hp], cell_plain hp (hcell i (by omega))⟩

theorem open_rows {H : Type} {enc : TypeId × Value → H} {W : World} {v : Value} {d : DataW H} {p : List MemPlace} (hv : ∃ a len cap, v = .slice a len cap) (h : DataW.Trod enc Try.prog W 0 (fun _ => true) true 23 v d p) :
    ∃ (a : Option Addr) (n c : Nat) (L : Nat → Nat) (X : Nat → Nat → Int), v = .slice a n c ∧ Rws W a n L X ∧ n ≤ 9223372036854775807 ∧ ∀ g, g < n → L g ≤ 9223372036854775807 := by
  obtain ⟨a, len, cap, rfl⟩ := hv
  obtain ⟨fuel, hf⟩ := h
  rcases open_int_rows Try.underlying23 Try.underlying38 Try.underlying5 Try.cells38 Try.cells5 hf with ⟨hcs, _⟩ | ⟨a', len', cap', A, L, C, Z, hcs, _, hl, hm, _, hr⟩
  · simp [Value.cells] at hcs
    obtain ⟨rfl, rfl, rfl⟩ := hcs
    exact ⟨none, 0, 0, fun _ => 0, fun _ _ => 0, rfl, ⟨0, 0, fun i hi => absurd hi (Nat.not_lt_zero _)⟩, Nat.zero_le _, fun i hi => absurd hi (Nat.not_lt_zero _)⟩
  · simp [Value.cells] at hcs
    obtain ⟨rfl, rfl, rfl⟩ := hcs
    unfold maxLen at hm
    refine ⟨some a', len, cap, L, fun g j => (Z g).getD j 0, rfl, ⟨a'.block, a'.off, fun g hg => ?_⟩, by omega, fun g hg => ?_⟩
    · obtain ⟨g0, _⟩ := hr 0 (by omega)
      have hp := plain_of g0
      obtain ⟨g1, g2, g3, g4, g5, g6, g7⟩ := hr g (by omega)
      refine ⟨by rw [← hp], A g, C g, cell_plain hp g1, g2, fun e => by have := g6 e; omega, ?_⟩
      cases hA : A g with
      | none => exact ⟨0, 0, fun i hi => by have := g6 hA; omega⟩
      | some q =>
        obtain ⟨_, hq⟩ := g7 q hA
        refine ⟨q.block, q.off, fun i hi => ?_⟩
        have hqp := plain_of (hq 0 (by omega))
        have hmem : (Z g).getD i 0 ∈ Z g := by
          have hlt : i < (Z g).length := by omega
          simp [List.getD, hlt]
        exact ⟨by rw [← hqp], cell_plain hqp (hq i (by omega)), bounds_u8 (g5 _ hmem)⟩
    · obtain ⟨_, g2, g3, _⟩ := hr g (by omega)
      unfold maxLen at g3; omega
end Go.Proofs.Qxb6627355a
