/-
  A slice of flows that came in, opened: what it holds as plain numbers, and where it lies.
-/
import Derived.Test.Qxb6630895aLists
import Derived.Deep.Matrix
import Derived.Lib.SmallJoins
namespace Go.Proofs.Qxb6630895a
open Go.RowKit Go.Deep Go.WideShapes

theorem Try.cells36 : Try.prog.cellsOf 36 = 4 := by kernel_rfl
theorem Try.cells2 : Try.prog.cellsOf 2 = 1 := by kernel_rfl
theorem Try.cells34 : Try.prog.cellsOf 34 = 1 := by kernel_rfl
theorem Try.cells4 : Try.prog.cellsOf 4 = 1 := by kernel_rfl
theorem Try.cells31 : Try.prog.cellsOf 31 = 1 := by kernel_rfl
theorem Try.cells21 : Try.prog.cellsOf 21 = 1 := by kernel_rfl

/-- One flow: its fields and its paths. -/
structure Rec where
  S : Int
  Bd : Int
  Li : Bool
  PA : Option Addr
  PN : Nat
  PC : Nat
  A : Nat → Option Addr
  L : Nat → Nat
  K : Nat → Nat
  Z : Nat → List Int

structure Rec.Good (W : World) (b o : Nat) (r : Rec) : Prop where
  sent : W.cell? ⟨b, o, none⟩ = some (.int .i64 r.S)
  bad : W.cell? ⟨b, o + 1, none⟩ = some (.int .i64 r.Bd)
  paths : W.cell? ⟨b, o + 2, none⟩ = some (.slice r.PA r.PN r.PC)
  listed : W.cell? ⟨b, o + 3, none⟩ = some (.bool r.Li)
  nil : r.PA = none → r.PN = 0
  pn : r.PN ≤ maxLen
  path : ∀ j, j < r.PN → ∃ p, r.PA = some p ∧ W.cell? (p.add j) = some (.slice (r.A j) (r.L j) (r.K j)) ∧ r.L j ≤ maxLen ∧ (∀ n ∈ r.Z j, (Lit.int .i32 n).wf = true) ∧ (r.L j ≤ (r.Z j).length) ∧
    ∀ q, q < r.L j → ∃ a, r.A j = some a ∧ W.cell? (a.add q) = some (.int .i32 ((r.Z j).getD q 0))

theorem open_flow {H : Type} {enc : TypeId × Value → H} {W : World} {fuel b o : Nat} {cs : List Value} {x : DataW H × List MemPlace} (hc : W.cells? 0 ⟨b, o, none⟩ 4 = some cs) (h : DataW.trod enc Try.prog W 0 (fun _ => true) true fuel 36 cs = some x) :
    ∃ r : Rec, r.Good W b o := by
  obtain ⟨_, hlen, hcell⟩ := World.cells?_some hc
  obtain ⟨y0, y1, y2, y3, n, _, _, t0, t1, t2, t3⟩ := Joins.trod_struct4 Try.underlying36 h
  match cs, hlen, hcell, t0, t1, t2, t3 with
  | [c0, c1, c2, c3], _, hcell, t0, t1, t2, t3 =>
    rw [Try.cells2] at t0 t1
    rw [Try.cells34] at t2
    rw [Try.cells4] at t3
    obtain ⟨S, e0, _, _⟩ := DataW.trod_int Try.underlying2 t0
    obtain ⟨Bd, e1, _, _⟩ := DataW.trod_int Try.underlying2 t1
    obtain ⟨Li, e3, _⟩ := DataW.trod_bool Try.underlying4 t3
    simp at e0 e1 e3
    subst e0 e1 e3
    have k0 := hcell 0 (by omega)
    have k1 := hcell 1 (by omega)
    have k2 := hcell 2 (by omega)
    have k3 := hcell 3 (by omega)
    rw [add_plain] at k0 k1 k2 k3
    simp at k0 k1 k2 k3
    rcases open_int_rows Try.underlying34 Try.underlying31 Try.underlying21 Try.cells31 Try.cells21 t2 with ⟨e2, _⟩ | ⟨a, len, cap, A, L, C, Z, e2, _, hl, hm, _, hr⟩
    · simp at e2
      subst e2
      exact ⟨⟨S, Bd, Li, none, 0, 0, fun _ => none, fun _ => 0, fun _ => 0, fun _ => []⟩, k0, k1, k2, k3, fun _ => rfl, Nat.zero_le _, fun j hj => absurd hj (Nat.not_lt_zero _)⟩
    · simp at e2
      subst e2
      refine ⟨⟨S, Bd, Li, some a, len, cap, A, L, C, Z⟩, k0, k1, k2, k3, (fun h => by cases h), Nat.le_trans hl hm, fun j hj => ?_⟩
      obtain ⟨g1, g2, g3, g4, g5, g6, g7⟩ := hr j (by exact Nat.lt_of_lt_of_le hj hl)
      refine ⟨a, rfl, g1, Nat.le_trans g2 g3, g5, by show L j ≤ (Z j).length; omega, fun q hq => ?_⟩
      have hq' : q < L j := hq
      show ∃ a, A j = some a ∧ _
      cases hA : A j with
      | none => have := g6 hA; omega
      | some a' => exact ⟨a', rfl, (g7 a' hA).2 q (by omega)⟩

theorem plain_of {W : World} {p : Addr} {v : Value} (h : W.cell? (p.add 0) = some v) : p = ⟨p.block, p.off, none⟩ := by
  have hs := World.cell?_spot h
  obtain ⟨pb, po, ps⟩ := p
  have hs' : ps = none := by simpa [Addr.add] using hs
  subst hs'
  rfl
theorem cell_plain {W : World} {p : Addr} {i : Nat} {v : Value} (hp : p = ⟨p.block, p.off, none⟩) (h : W.cell? (p.add i) = some v) : W.cell? ⟨p.block, p.off + i, none⟩ = some v := by
  rw [hp, add_plain] at h
  exact h

/-- THE ARGUMENT, OPENED. -/
theorem open_flows {H : Type} {enc : TypeId × Value → H} {W : World} {v : Value} {d : DataW H} {p : List MemPlace} (hv : ∃ a len cap, v = .slice a len cap) (h : DataW.Trod enc Try.prog W 0 (fun _ => true) true 22 v d p) :
    ∃ (D : Inp) (s : Spots), v = .slice s.a D.N s.cap ∧ D.Ok ∧ Top W D s ∧ Deepr W D s ∧ Nils D s := by
  obtain ⟨a, len, cap, rfl⟩ := hv
  obtain ⟨fuel, hf⟩ := h
  rcases open_slice Try.underlying22 hf with ⟨hcs, _⟩ | ⟨a', len', cap', m, n, DD, Pl, hcs, _, hl, hm, hmm, _, hx⟩
  · simp [Value.cells] at hcs
    obtain ⟨rfl, rfl, rfl⟩ := hcs
    refine ⟨⟨0, fun _ => 0, fun _ _ => 0, fun _ _ _ => 0⟩, ⟨none, 0, 0, 0, fun _ => 0, fun _ => 0, fun _ => false, fun _ => none, fun _ => 0, fun _ => 0, fun _ => 0, fun _ _ => none, fun _ _ => 0, fun _ _ => 0, fun _ _ => 0⟩, rfl, ?_, ?_, ?_, ?_⟩
    · exact ⟨Nat.zero_le _, fun i hi => absurd hi (Nat.not_lt_zero _), fun i j hi => absurd hi (Nat.not_lt_zero _), fun i j q hi => absurd hi (Nat.not_lt_zero _)⟩
    · exact ⟨fun i hi => absurd hi (Nat.not_lt_zero _), fun i hi => absurd hi (Nat.not_lt_zero _), fun i hi => absurd hi (Nat.not_lt_zero _), fun i hi => absurd hi (Nat.not_lt_zero _), fun i hi => absurd hi (Nat.not_lt_zero _)⟩
    · exact ⟨fun i j hi => absurd hi (Nat.not_lt_zero _), fun i j hi => absurd hi (Nat.not_lt_zero _), fun i j q hi => absurd hi (Nat.not_lt_zero _), fun i j q hi => absurd hi (Nat.not_lt_zero _)⟩
    · exact ⟨fun _ => rfl, fun i hi => absurd hi (Nat.not_lt_zero _)⟩
  · simp [Value.cells] at hcs
    obtain ⟨rfl, rfl, rfl⟩ := hcs
    rw [Try.cells36] at hx
    simp only [if_true] at hmm
    have hpl : 0 < len → a' = ⟨a'.block, a'.off, none⟩ := by
      intro h0
      obtain ⟨cs, h1, h2⟩ := hx 0 (by omega)
      have h3 := (World.cells?_some h1).2.2 0 (by omega)
      have h4 := (World.cells?_some h1).2.1
      match cs, h4, h3 with
      | u :: _, _, h3 =>
        rw [Deep.add_add] at h3
        exact plain_of h3
    have each : ∀ i, i < len → ∃ r : Rec, a' = ⟨a'.block, a'.off, none⟩ ∧ r.Good W a'.block (a'.off + i * 4) := by
      intro i hi
      obtain ⟨cs, h1, h2⟩ := hx i (by omega)
      have hp := hpl (by omega)
      rw [hp, add_plain] at h1
      obtain ⟨r, hr⟩ := open_flow h1 h2
      exact ⟨r, hp, hr⟩
    obtain ⟨R, hR⟩ := @choose_lt Rec ⟨⟨0, 0, false, none, 0, 0, fun _ => none, fun _ => 0, fun _ => 0, fun _ => []⟩⟩ len _ each
    refine ⟨⟨len, fun i => (R i).PN, fun i j => (R i).L j, fun i j q => ((R i).Z j).getD q 0⟩,
      ⟨some a', a'.block, a'.off, cap, fun i => (R i).S, fun i => (R i).Bd, fun i => (R i).Li, fun i => (R i).PA, fun i => ((R i).PA.getD ⟨0, 0, none⟩).block, fun i => ((R i).PA.getD ⟨0, 0, none⟩).off, fun i => (R i).PC,
        fun i j => (R i).A j, fun i j => ((R i).A j |>.getD ⟨0, 0, none⟩).block, fun i j => ((R i).A j |>.getD ⟨0, 0, none⟩).off, fun i j => (R i).K j⟩, rfl, ?_, ?_, ?_, ?_⟩
    · refine ⟨?_, fun i hi => ?_, fun i j hi hj => ?_, fun i j q hi hj hq => ?_⟩
      · unfold maxLen at hm; show len ≤ _; omega
      · have := (hR i hi).2.pn; unfold maxLen at this; exact this
      · obtain ⟨_, _, _, g, _⟩ := (hR i hi).2.path j hj
        unfold maxLen at g; exact g
      · obtain ⟨_, _, _, _, g, gl, _⟩ := (hR i hi).2.path j hj
        have hq' : q < (R i).L j := hq
        have hm' : ((R i).Z j).getD q 0 ∈ (R i).Z j := by
          have hlt : q < ((R i).Z j).length := by omega
          simp [List.getD, hlt]
        exact bounds_i32 (g _ hm')
    · exact ⟨fun i hi => by rw [← (hR i hi).1], fun i hi => (hR i hi).2.sent, fun i hi => (hR i hi).2.bad, fun i hi => (hR i hi).2.paths, fun i hi => (hR i hi).2.listed⟩
    · have pl : ∀ i j, i < len → j < (R i).PN → ∃ pp, (R i).PA = some pp ∧ pp = ⟨pp.block, pp.off, none⟩ := by
        intro i j hi hj
        obtain ⟨pp, e, g1, _⟩ := (hR i hi).2.path 0 (by omega)
        exact ⟨pp, e, plain_of g1⟩
      have ql : ∀ i j q, i < len → j < (R i).PN → q < (R i).L j → ∃ aa, (R i).A j = some aa ∧ aa = ⟨aa.block, aa.off, none⟩ := by
        intro i j q hi hj hq
        obtain ⟨_, _, _, _, _, _, g⟩ := (hR i hi).2.path j hj
        obtain ⟨aa, e, g1⟩ := g 0 (by omega)
        exact ⟨aa, e, plain_of g1⟩
      refine ⟨fun i j hi hj => ?_, fun i j hi hj => ?_, fun i j q hi hj hq => ?_, fun i j q hi hj hq => ?_⟩
      · obtain ⟨pp, e, hp⟩ := pl i j hi hj
        show (R i).PA = some ⟨((R i).PA.getD ⟨0, 0, none⟩).block, ((R i).PA.getD ⟨0, 0, none⟩).off, none⟩
        rw [e, Option.getD_some, ← hp]
      · obtain ⟨pp, e, hp⟩ := pl i j hi hj
        obtain ⟨pp', e', g1, _⟩ := (hR i hi).2.path j hj
        rw [e] at e'
        cases e'
        show W.cell? ⟨((R i).PA.getD ⟨0, 0, none⟩).block, ((R i).PA.getD ⟨0, 0, none⟩).off + j, none⟩ = _
        rw [e, Option.getD_some]
        exact cell_plain hp g1
      · obtain ⟨aa, e, hp⟩ := ql i j q hi hj hq
        show (R i).A j = some ⟨(((R i).A j).getD ⟨0, 0, none⟩).block, (((R i).A j).getD ⟨0, 0, none⟩).off, none⟩
        rw [e, Option.getD_some, ← hp]
      · obtain ⟨aa, e, hp⟩ := ql i j q hi hj hq
        obtain ⟨_, _, _, _, _, _, g⟩ := (hR i hi).2.path j hj
        obtain ⟨aa', e', g1⟩ := g q hq
        rw [e] at e'
        cases e'
        show W.cell? ⟨(((R i).A j).getD ⟨0, 0, none⟩).block, (((R i).A j).getD ⟨0, 0, none⟩).off + q, none⟩ = _
        rw [e, Option.getD_some]
        exact cell_plain hp g1
    · exact ⟨(fun h => by cases h), fun i hi => (hR i hi).2.nil⟩
end Go.Proofs.Qxb6630895a
