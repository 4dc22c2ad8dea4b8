import Derived.Test.Qxb6630895aData
import Derived.Deep.OwnRows
namespace Go.Proofs.Qxb6630895a
open Go.RowKit

/-! ### Flows, wherever they lie below block B -/
def PathOk (B : Nat) (w : World) (v : Value) (m : Nat) (c : Nat → Int) : Prop :=
  ∃ (a : Option Addr) (b o cap : Nat), v = .slice a m cap ∧ ∀ q, q < m → a = some ⟨b, o, none⟩ ∧ b < B ∧ w.cell? ⟨b, o + q, none⟩ = some (.int .i32 (c q))
def PathsOk (B : Nat) (w : World) (v : Value) (pn : Nat) (QN : Nat → Nat) (C : Nat → Nat → Int) : Prop :=
  ∃ (a : Option Addr) (b o cap : Nat), v = .slice a pn cap ∧ ∀ j, j < pn → a = some ⟨b, o, none⟩ ∧ b < B ∧ ∃ v', w.cell? ⟨b, o + j, none⟩ = some v' ∧ PathOk B w v' (QN j) (C j)
def FlowsOk (B : Nat) (w : World) (v : Value) (D : Inp) : Prop :=
  ∃ (a : Option Addr) (b o cap : Nat), v = .slice a D.N cap ∧ ∀ i, i < D.N → a = some ⟨b, o, none⟩ ∧ b < B ∧ ∃ v', w.cell? ⟨b, o + i * 4 + 2, none⟩ = some v' ∧ PathsOk B w v' (D.PN i) (D.QN i) (D.C i)

theorem PathOk.below {B : Nat} {w w' : World} {v : Value} {m : Nat} {c : Nat → Int} (h : PathOk B w v m c) (hb : Below B w w') : PathOk B w' v m c := by
  obtain ⟨a, b, o, cap, e, h⟩ := h
  exact ⟨a, b, o, cap, e, fun q hq => let ⟨h1, h2, h3⟩ := h q hq; ⟨h1, h2, by rw [hb.cell h2]; exact h3⟩⟩
theorem PathsOk.below {B : Nat} {w w' : World} {v : Value} {pn : Nat} {QN : Nat → Nat} {C : Nat → Nat → Int} (h : PathsOk B w v pn QN C) (hb : Below B w w') : PathsOk B w' v pn QN C := by
  obtain ⟨a, b, o, cap, e, h⟩ := h
  exact ⟨a, b, o, cap, e, fun q hq => let ⟨h1, h2, v', h3, h4⟩ := h q hq; ⟨h1, h2, v', by rw [hb.cell h2]; exact h3, h4.below hb⟩⟩
theorem FlowsOk.below {B : Nat} {w w' : World} {v : Value} {D : Inp} (h : FlowsOk B w v D) (hb : Below B w w') : FlowsOk B w' v D := by
  obtain ⟨a, b, o, cap, e, h⟩ := h
  exact ⟨a, b, o, cap, e, fun q hq => let ⟨h1, h2, v', h3, h4⟩ := h q hq; ⟨h1, h2, v', by rw [hb.cell h2]; exact h3, h4.below hb⟩⟩

/-! ### What holds in the middle of 'forEachPair' -/
structure Env (B : Nat) (D : Inp) (fsv : Value) (n : Nat) (w : World) : Prop where
  fs : w.cell? ⟨B, 0, none⟩ = some fsv
  lf : w.cell? ⟨B + 2, 0, none⟩ = some (.slice (some ⟨B + 1, 0, none⟩) n n)
  flows : FlowsOk B w fsv D

theorem Env.below {B : Nat} {D : Inp} {fsv : Value} {n : Nat} {w w' : World} (h : Env B D fsv n w) (hb : Below (B + 3) w w') : Env B D fsv n w' :=
  ⟨by rw [hb.cell (by show B < B + 3; omega)]; exact h.fs, by rw [hb.cell (by show B + 2 < B + 3; omega)]; exact h.lf, h.flows.below (hb.mono (by omega))⟩
theorem Env.set {B : Nat} {D : Inp} {fsv : Value} {n : Nat} {w : World} (h : Env B D fsv n w) (i : Nat) (v : Value) : Env B D fsv n (w.setCell ⟨B + 1, i, none⟩ v) :=
  ⟨by rw [World.cell?_of_block (a := ⟨B, 0, none⟩) (Below.heap_setCell w ⟨B + 1, i, none⟩ v B (by show B ≠ B + 1; omega))]; exact h.fs,
   by rw [World.cell?_of_block (a := ⟨B + 2, 0, none⟩) (Below.heap_setCell w ⟨B + 1, i, none⟩ v (B + 2) (by show B + 2 ≠ B + 1; omega))]; exact h.lf,
   h.flows.below ((Below.refl _ _).setCell (by show B ≤ B + 1; omega) _)⟩

/-- The first loop: k of the marks are laid. -/
structure Ini (B : Nat) (D : Inp) (fsv : Value) (n : Nat) (I : (Nat → Nat) → World → Prop) (w0 : World) (k : Nat) (w : World) : Prop where
  env : Env B D fsv n w
  row : ∃ h : Nat → Value, w.rowIs (B + 1) 21 n h ∧ ∀ c, c < k → h c = .int .i32 (-1)
  inv : I (fun _ => 0) w
  below : Below B w0 w

/-- The great loop, at position q of path j of flow f. -/
structure Est (B : Nat) (D : Inp) (fsv : Value) (n : Nat) (I : (Nat → Nat) → World → Prop) (w0 : World) (f j q : Nat) (w : World) : Prop where
  env : Env B D fsv n w
  row : ∃ lf : Nat → Int, w.rowIs (B + 1) 21 n (fun c => .int .i32 (lf c)) ∧ ∀ c : Nat, c < n → lf c ≤ f ∧ (lf c = f ↔ seen D f j q c = true)
  inv : I (fun c => vis D f j q c) w
  below : Below B w0 w

section
variable {B : Nat} {D : Inp} {fsv : Value} {n : Nat} {I : (Nat → Nat) → World → Prop} {w0 w : World}

theorem Ini.step {k : Nat} (h : Ini B D fsv n I w0 k w) (stab : ∀ V w i v, I V w → I V (w.setCell ⟨B + 1, i, none⟩ v)) : Ini B D fsv n I w0 (k + 1) (w.setCell ⟨B + 1, k, none⟩ (.int .i32 (-1))) := by
  obtain ⟨g, hr, hg⟩ := h.row
  refine ⟨h.env.set _ _, ⟨_, hr.set k _, fun c hc => ?_⟩, stab _ _ _ _ h.inv, h.below.setCell (by show B ≤ B + 1; omega) _⟩
  by_cases e : c = k
  · simp [e]
  · rw [if_neg e]; exact hg c (by omega)

theorem Ini.done (h : Ini B D fsv n I w0 n w) : Est B D fsv n I w0 0 0 0 w := by
  obtain ⟨g, hr, hg⟩ := h.row
  refine ⟨h.env, ⟨fun _ => -1, hr.congr hg, fun c _ => ⟨by simp, by simp [seen_zero]⟩⟩, ?_, h.below⟩
  have e : (fun c : Nat => vis D 0 0 0 (c : Int)) = fun _ => 0 := funext fun c => vis_zero D c
  rw [e]; exact h.inv

theorem Est.path {f j : Nat} (h : Est B D fsv n I w0 f j (D.QN f j) w) : Est B D fsv n I w0 f (j + 1) 0 w := by
  obtain ⟨lf, hr, hg⟩ := h.row
  refine ⟨h.env, ⟨lf, hr, fun c hc => by rw [seen_next]; exact hg c hc⟩, ?_, h.below⟩
  have e : (fun c : Nat => vis D f (j + 1) 0 (c : Int)) = fun c : Nat => vis D f j (D.QN f j) (c : Int) := funext fun c => vis_path D f j c
  rw [e]; exact h.inv

theorem Est.flow {f : Nat} (h : Est B D fsv n I w0 f (D.PN f) 0 w) : Est B D fsv n I w0 (f + 1) 0 0 w := by
  obtain ⟨lf, hr, hg⟩ := h.row
  refine ⟨h.env, ⟨lf, hr, fun c hc => ?_⟩, ?_, h.below⟩
  · have := hg c hc
    refine ⟨by omega, ?_⟩
    rw [seen_zero]
    constructor
    · intro e; exfalso; omega
    · intro e; cases e
  · have e : (fun c : Nat => vis D (f + 1) 0 0 (c : Int)) = fun c : Nat => vis D f (D.PN f) 0 (c : Int) := funext fun c => vis_flow D f c
    rw [e]; exact h.inv

theorem Est.old {f j q c : Nat} (h : Est B D fsv n I w0 f j q w) (hc : D.C f j q = (c : Int)) (hs : seen D f j q (c : Int) = true) : Est B D fsv n I w0 f j (q + 1) w := by
  obtain ⟨lf, hr, hg⟩ := h.row
  refine ⟨h.env, ⟨lf, hr, fun x hx => ?_⟩, ?_, h.below⟩
  · have hgx := hg x hx
    refine ⟨hgx.1, ?_⟩
    rw [seen_succ, hgx.2, hc]
    by_cases e : (c : Int) = (x : Int)
    · rw [← e, hs]; simp
    · simp [e]
  · have e : (fun x : Nat => vis D f j (q + 1) (x : Int)) = fun x : Nat => vis D f j q (x : Int) := funext fun x => vis_old (by rw [hc]; exact hs) x
    rw [e]; exact h.inv

/-- A visit: the mark is laid, the visit is made. -/
theorem Est.new {f j q c : Nat} {w' : World} (h : Est B D fsv n I w0 f j q w) (hcn : c < n) (hc : D.C f j q = (c : Int)) (hs : seen D f j q (c : Int) = false)
    (hI : I (fun x => vis D f j q (x : Int) + if x = c then 1 else 0) w') (hb : Below (B + 3) (w.setCell ⟨B + 1, c, none⟩ (.int .i32 (f : Int))) w') : Est B D fsv n I w0 f j (q + 1) w' := by
  obtain ⟨lf, hr, hg⟩ := h.row
  have hr' : w'.rowIs (B + 1) 21 n (fun x => .int .i32 (if x = c then (f : Int) else lf x)) := by
    have h1 := (hr.set c (.int .i32 (f : Int))).of_block (hb.block (B + 1) (by omega))
    refine h1.congr (fun x _ => ?_)
    by_cases e : x = c
    · simp [e]
    · simp [e]
  refine ⟨(h.env.set _ _).below hb, ⟨_, hr', fun x hx => ?_⟩, ?_, (h.below.setCell (by show B ≤ B + 1; omega) _).trans (hb.mono (by omega))⟩
  · have hgx := hg x hx
    rw [seen_succ, hc]
    by_cases e : x = c
    · subst e; simp
    · have e' : ¬ (c : Int) = (x : Int) := by omega
      simp only [if_neg e]
      refine ⟨hgx.1, ?_⟩
      rw [hgx.2]
      simp [e']
  · have e : (fun x : Nat => vis D f j (q + 1) (x : Int)) = fun x : Nat => vis D f j q (x : Int) + if x = c then 1 else 0 := funext fun x => by
      rw [vis_new (by rw [hc]; exact hs), hc]
      by_cases e : x = c
      · subst e; simp
      · have e' : ¬ (x : Int) = (c : Int) := by omega
        simp [e, e']
    rw [e]; exact hI
end
end Go.Proofs.Qxb6630895a
