import Derived.Test.Qxb6627355aDiffMath
namespace Go.Proofs.Qxb6627355a
open Go.RowKit

/-- next, its value said by Cur. -/
def NextP (S : St) (rb ro : Nat → Nat) (p q : Nat) (ga : Option Addr) (gc : Nat) (J : Nat → Nat) (w : World) (e : Ending) (w' : World) : Prop :=
  ∃ x J', e = .returned x ∧ Cur S rb ro J x J' ∧ w.grownBy w' (some q) ∧ WalkIn w' p q ga S.G gc S.s J'
theorem nextp_calls {w0 w : World} {ga : Option Addr} {gc p q gb go : Nat} {rb ro cap : Nat → Nat} {S : St} {J : Nat → Nat} (hv : Valid S) (hsm : Small S) (hgr : GrAt w0 ga S gb go rb ro cap) (hb0 : Below w0.heap.size w0 w)
    (hw : WalkIn w p q ga S.G gc S.s J) (hJ : ∀ g, g < S.G → J g ≤ S.m g) :
    Calls Try.prog 23 #[.pointer (some ⟨p, 0, none⟩)] w (NextP S rb ro p q ga gc J w) := by
  refine (next_calls hv hsm hgr hb0 hw hJ).mono ?_
  rintro e w' ⟨hg, ⟨rfl, h1, h2⟩ | ⟨g, h1, rfl, h2⟩⟩
  · exact ⟨_, J, rfl, Or.inl ⟨rfl, h1, rfl⟩, hg, h2⟩
  · exact ⟨_, bump J g, rfl, Or.inr ⟨g, h1, rfl, rfl⟩, hg, h2⟩
theorem cur_le {S : St} {rb ro J J' : Nat → Nat} {x : Value} (h : Cur S rb ro J x J') (hJ : ∀ g, g < S.G → J g ≤ S.m g) : ∀ g, g < S.G → J' g ≤ S.m g := by
  rcases h with ⟨_, _, rfl⟩ | ⟨g, h1, _, rfl⟩
  · exact hJ
  · exact bump_le h1 hJ

/-- Where the fixed blocks of a Difference lie. -/
structure Geo (B N0 pF qF pT qT : Nat) : Prop where
  pf : B + 4 ≤ pF ∧ pF < N0
  qf : B + 4 ≤ qF ∧ qF < N0
  pt : B + 4 ≤ pT ∧ pT < N0
  qt : B + 4 ≤ qT ∧ qT < N0
  n1 : pF ≠ qT
  n2 : qF ≠ pT
  n3 : qF ≠ qT

structure DAt (w : World) (N0 pF qF pT qT : Nat) (ga gb : Option Addr) (gc gd : Nat) (F T : St) (wr : World) (JF JT : Nat → Nat) (R : List Nat) (v : Value) (V : Nat → Value) (LS : Nat → List Int) : Prop where
  below : Below w.heap.size w wr
  size : N0 ≤ wr.heap.size
  res : ∃ f, wr.rowIs (w.heap.size + 1 + 1) 32 2 f
  row : wr.rowIs (w.heap.size + 1 + 1 + 1) 50 33 V
  wF : WalkIn wr pF qF ga F.G gc F.s JF
  wT : WalkIn wr pT qT gb T.G gd T.s JT
  rem : wr.ownsRow N0 21 1 v R.length (R.map fun (r : Nat) => .int .i32 (r : Int))
  own : ∀ s, s < 33 → wr.ownsRow N0 5 1 (V s) (LS s).length ((LS s).map (.int .u8))
  apart : ∀ s t g, s < 33 → t < 33 → s ≠ t → (V s).ownBlock = some g → (V t).ownBlock ≠ some g
  byt : ∀ s z, z ∈ LS s → 0 ≤ z ∧ z ≤ 255

section
variable {w : World} {N0 pF qF pT qT : Nat} {ga gb : Option Addr} {gc gd : Nat} {F T : St} {wr w1 w2 : World} {JF JT : Nat → Nat} {R : List Nat} {v : Value} {V : Nat → Value} {LS : Nat → List Int}

theorem DAt.nextF (h : DAt w N0 pF qF pT qT ga gb gc gd F T wr JF JT R v V LS) (G : Geo w.heap.size N0 pF qF pT qT) {J' : Nat → Nat} (hg : wr.grownBy w1 (some qF)) (hw : WalkIn w1 pF qF ga F.G gc F.s J') :
    DAt w N0 pF qF pT qT ga gb gc gd F T w1 J' JT R v V LS := by
  obtain ⟨f, hf⟩ := h.res
  have hq := G.qf
  have hne : ∀ b, b ≠ qF → some b ≠ some qF := fun b hb e => hb (by cases e; rfl)
  refine ⟨h.below.grown hg (h.below.size) (fun k hk => by cases hk; omega), Nat.le_trans h.size hg.size, ⟨f, hf.of_block (hg.block _ hf.lt (hne _ (by omega)))⟩, h.row.of_block (hg.block _ h.row.lt (hne _ (by omega))), hw,
    h.wT.kept hg (hne _ (Ne.symm G.n2)) (hne _ (Ne.symm G.n3)), ?_, fun s hs => ?_, h.apart, h.byt⟩
  · refine owns_kept h.rem (fun g hg' => ?_)
    obtain ⟨k1, k2, _⟩ := owns_block h.rem hg'
    exact hg.block g k2 (hne _ (by omega))
  · refine owns_kept (h.own s hs) (fun g hg' => ?_)
    obtain ⟨k1, k2, _⟩ := owns_block (h.own s hs) hg'
    exact hg.block g k2 (hne _ (by omega))

theorem DAt.nextT (h : DAt w N0 pF qF pT qT ga gb gc gd F T wr JF JT R v V LS) (G : Geo w.heap.size N0 pF qF pT qT) {J' : Nat → Nat} (hg : wr.grownBy w1 (some qT)) (hw : WalkIn w1 pT qT gb T.G gd T.s J') :
    DAt w N0 pF qF pT qT ga gb gc gd F T w1 JF J' R v V LS := by
  obtain ⟨f, hf⟩ := h.res
  have hq := G.qt
  have hne : ∀ b, b ≠ qT → some b ≠ some qT := fun b hb e => hb (by cases e; rfl)
  refine ⟨h.below.grown hg (h.below.size) (fun k hk => by cases hk; omega), Nat.le_trans h.size hg.size, ⟨f, hf.of_block (hg.block _ hf.lt (hne _ (by omega)))⟩, h.row.of_block (hg.block _ h.row.lt (hne _ (by omega))),
    h.wF.kept hg (hne _ G.n1) (hne _ G.n3), hw, ?_, fun s hs => ?_, h.apart, h.byt⟩
  · refine owns_kept h.rem (fun g hg' => ?_)
    obtain ⟨k1, k2, _⟩ := owns_block h.rem hg'
    exact hg.block g k2 (hne _ (by omega))
  · refine owns_kept (h.own s hs) (fun g hg' => ?_)
    obtain ⟨k1, k2, _⟩ := owns_block (h.own s hs) hg'
    exact hg.block g k2 (hne _ (by omega))

/-- A rank is appended. -/
theorem DAt.rank (h : DAt w N0 pF qF pT qT ga gb gc gd F T wr JF JT R v V LS) (G : Geo w.heap.size N0 pF qF pT qT) {v' : Value} {i : Nat} (h1 : Below wr.heap.size wr w1) (hg : w1.grownBy w2 v.ownBlock)
    (ho : w2.ownsRow N0 21 1 v' (R.length + 1) ((R.map fun (r : Nat) => Value.int .i32 (r : Int)) ++ [.int .i32 (i : Int)])) :
    DAt w N0 pF qF pT qT ga gb gc gd F T w2 JF JT (R ++ [i]) v' V LS := by
  obtain ⟨f, hf⟩ := h.res
  have hsz := h.size
  have g1 := G.pf; have g2 := G.qf; have g3 := G.pt; have g4 := G.qt
  have hlow : ∀ b, b < N0 → some b ≠ v.ownBlock := by
    intro b hb e
    have := (owns_block h.rem e.symm).1
    omega
  have hblk : ∀ b, b < wr.heap.size → some b ≠ v.ownBlock → w2.heap[b]? = wr.heap[b]? := fun b hb hne => by
    rw [hg.block b (Nat.lt_of_lt_of_le hb h1.size) hne, h1.block b hb]
  have hgb : wr.grownBy w2 v.ownBlock := ⟨hg.os.trans h1.os, hg.tape.trans h1.tape, hg.output.trans h1.output, Nat.le_trans h1.size hg.size, hblk⟩
  refine ⟨h.below.grown hgb h.below.size (fun k hk => ?_), Nat.le_trans hsz hgb.size, ⟨f, hf.of_block (hblk _ hf.lt (hlow _ (by omega)))⟩, h.row.of_block (hblk _ h.row.lt (hlow _ (by omega))),
    h.wF.kept hgb (hlow _ (by omega)) (hlow _ (by omega)), h.wT.kept hgb (hlow _ (by omega)) (hlow _ (by omega)), ?_, fun s hs => ?_, h.apart, h.byt⟩
  · have := (owns_block h.rem hk).1; omega
  · rw [List.length_append, List.map_append]; exact ho
  · refine owns_kept (h.own s hs) (fun g hg' => ?_)
    obtain ⟨k1, k2, c1, k3⟩ := owns_block (h.own s hs) hg'
    refine hblk g k2 (fun e => ?_)
    obtain ⟨_, _, c2, k4⟩ := owns_block h.rem e.symm
    rw [k3] at k4
    injection k4 with k4
    injection k4 with _ k5
    exact absurd k5 (by decide)

/-- The bytes of one prefix are appended to the row of its size. -/
theorem DAt.add (h : DAt w N0 pF qF pT qT ga gb gc gd F T wr JF JT R v V LS) (G : Geo w.heap.size N0 pF qF pT qT) {s : Nat} (hs : s < 33) {v' : Value} {l : List Int} (hg : wr.grownBy w2 (V s).ownBlock)
    (ho : w2.ownsRow N0 5 1 v' ((LS s).length + l.length) ((LS s).map (Value.int .u8) ++ l.map (Value.int .u8))) (hap : v'.ownBlock = (V s).ownBlock ∨ ∃ g, v'.ownBlock = some g ∧ wr.heap.size ≤ g) (hl : ∀ z, z ∈ l → 0 ≤ z ∧ z ≤ 255) :
    DAt w N0 pF qF pT qT ga gb gc gd F T (w2.setCell ⟨w.heap.size + 1 + 1 + 1, s, none⟩ v') JF JT R v (fun t => if t = s then v' else V t) (putL LS s (LS s ++ l)) := by
  obtain ⟨f, hf⟩ := h.res
  have hsz := h.size
  have g1 := G.pf; have g2 := G.qf; have g3 := G.pt; have g4 := G.qt
  have hlow : ∀ b, b < N0 → some b ≠ (V s).ownBlock := by
    intro b hb e
    have := (owns_block (h.own s hs) e.symm).1
    omega
  have hblk : ∀ b, b < wr.heap.size → some b ≠ (V s).ownBlock → b ≠ w.heap.size + 1 + 1 + 1 → (w2.setCell ⟨w.heap.size + 1 + 1 + 1, s, none⟩ v').heap[b]? = wr.heap[b]? := fun b hb hne hb3 => by
    rw [Below.heap_setCell _ _ _ _ (by show b ≠ w.heap.size + 1 + 1 + 1; exact hb3), hg.block b hb hne]
  have hcell : ∀ p i x, p < N0 → p ≠ w.heap.size + 1 + 1 + 1 → wr.cell? ⟨p, i, none⟩ = some x → (w2.setCell ⟨w.heap.size + 1 + 1 + 1, s, none⟩ v').cell? ⟨p, i, none⟩ = some x := fun p i x hp hb3 hx =>
    (World.cell?_of_block (a := ⟨p, i, none⟩) (hblk p (by omega) (hlow p hp) hb3)).trans hx
  refine ⟨(h.below.grown hg h.below.size (fun k hk => ?_)).setCell (by show w.heap.size ≤ w.heap.size + 1 + 1 + 1; omega) _, ?_, ⟨f, hf.of_block (hblk _ hf.lt (hlow _ (by omega)) (by omega))⟩, ?_, ?_, ?_, ?_, fun t ht => ?_, ?_, ?_⟩
  · have := (owns_block (h.own s hs) hk).1; omega
  · have := hg.size
    simp only [World.setCell, Array.size_modify]
    omega
  · exact ((h.row.of_block (hg.block _ h.row.lt (hlow _ (by omega)))).set s v').congr (fun j _ => rfl)
  · exact ⟨h.wF.ne, hcell _ _ _ (by omega) (by omega) h.wF.fst, hcell _ _ _ (by omega) (by omega) h.wF.snd, h.wF.row.of_block (hblk _ h.wF.row.lt (hlow _ (by omega)) (by omega))⟩
  · exact ⟨h.wT.ne, hcell _ _ _ (by omega) (by omega) h.wT.fst, hcell _ _ _ (by omega) (by omega) h.wT.snd, h.wT.row.of_block (hblk _ h.wT.row.lt (hlow _ (by omega)) (by omega))⟩
  · refine owns_kept h.rem (fun g hg' => ?_)
    obtain ⟨k1, k2, c1, k3⟩ := owns_block h.rem hg'
    refine hblk g k2 (fun e => ?_) (by omega)
    obtain ⟨_, _, c2, k4⟩ := owns_block (h.own s hs) e.symm
    rw [k3] at k4
    injection k4 with k4
    injection k4 with _ k5
    exact absurd k5 (by decide)
  · unfold putL
    by_cases e : t = s
    · subst e
      simp only [if_true, List.length_append, List.map_append]
      refine owns_kept ho (fun g hg' => ?_)
      have := (owns_block ho hg').1
      exact Below.heap_setCell _ _ _ _ (by show g ≠ w.heap.size + 1 + 1 + 1; omega)
    · simp only [if_neg e]
      refine owns_kept (h.own t ht) (fun g hg' => ?_)
      obtain ⟨k1, k2, _⟩ := owns_block (h.own t ht) hg'
      exact hblk g k2 (fun e' => h.apart t s g ht hs e hg' e'.symm) (by omega)
  · have hfresh : ∀ t g, t < 33 → t ≠ s → (V t).ownBlock = some g → v'.ownBlock ≠ some g := by
      intro t g ht hts hg' e
      rcases hap with h' | ⟨g', h', hge⟩
      · exact h.apart t s g ht hs hts hg' (h' ▸ e)
      · have := (owns_block (h.own t ht) hg').2.1
        rw [h'] at e; cases e; omega
    intro a b g ha hb hab
    by_cases ea : a = s
    · subst ea
      simp only [if_true, if_neg (Ne.symm hab)]
      exact fun e e' => hfresh b g hb (Ne.symm hab) e' e
    · by_cases eb : b = s
      · subst eb
        simp only [if_true, if_neg ea]
        exact fun e => hfresh a g ha ea e
      · simp only [if_neg ea, if_neg eb]
        exact h.apart a b g ha hb hab
  · intro t z hz
    unfold putL at hz
    by_cases e : t = s
    · rw [if_pos e, List.mem_append] at hz
      rcases hz with hz | hz
      · exact h.byt s z hz
      · exact hl z hz
    · rw [if_neg e] at hz
      exact h.byt t z hz

/-- The rows that set reads. -/
theorem DAt.rows (h : DAt w N0 pF qF pT qT ga gb gc gd F T wr JF JT R v V LS) : ∃ (A : Nat → Option Addr) (C : Nat → Nat), (∀ i, i < 33 → V i = .slice (A i) (LS i).length (C i)) ∧ (∀ i, i < 33 → wr.cell? ⟨w.heap.size + 1 + 1 + 1, i, none⟩ = some (.slice (A i) (LS i).length (C i))) ∧
    ∀ i, i < 33 → (LS i).length ≤ C i ∧ (A i = none → (LS i).length = 0) := by
  obtain ⟨AC, hAC⟩ := Deep.choose_lt (α := Option Addr × Nat) (n := 33) (p := fun i y => V i = .slice y.1 (LS i).length y.2) (fun i hi => by
    obtain ⟨a, l, c, e, rfl⟩ := owns_form (h.own i hi)
    exact ⟨(a, c), e⟩)
  refine ⟨fun i => (AC i).1, fun i => (AC i).2, hAC, fun i hi => ?_, fun i hi => ?_⟩
  · rw [h.row.cell hi, hAC i hi]
  · have ho := h.own i hi
    rw [hAC i hi] at ho
    exact owns_cap ho
end

theorem bts_of {wz : World} {N0 : Nat} {a : Option Addr} {c : Nat} {l : List Int} (ho : wz.ownsRow N0 5 1 (.slice a l.length c) l.length (l.map (.int .u8))) (hb : ∀ z, z ∈ l → 0 ≤ z ∧ z ≤ 255) : Bts wz a l.length (fun j => l[j]?.getD 0) := by
  obtain ⟨g, hc⟩ := owns_cells ho
  refine ⟨g, 0, fun j hj => ?_⟩
  have hget : l[j]? = some l[j] := List.getElem?_eq_getElem hj
  obtain ⟨e1, _, _, e4⟩ := hc j (.int .u8 l[j]) (by rw [List.getElem?_map, hget]; rfl)
  refine ⟨e1, ?_, ?_⟩
  · simp only [Nat.zero_add, e4, hget, Option.getD_some]
  · simp only [hget, Option.getD_some]; exact hb _ (List.getElem_mem hj)

/-- Ranks in memory. -/
def I32s (w : World) (a : Option Addr) (R : List Nat) : Prop := ∃ b : Nat, ∀ k r : Nat, R[k]? = some r → a = some ⟨b, 0, none⟩ ∧ w.cell? ⟨b, k, none⟩ = some (.int .i32 (r : Int))
theorem I32s.below {w w' : World} {a : Option Addr} {R : List Nat} (h : I32s w a R) (hb : Below w.heap.size w w') : I32s w' a R := by
  obtain ⟨b, h⟩ := h
  exact ⟨b, fun k r hk => ⟨(h k r hk).1, cell_keep' (h k r hk).2 hb⟩⟩
theorem i32s_of {w : World} {N0 : Nat} {a : Option Addr} {l c : Nat} {R : List Nat} (h : w.ownsRow N0 21 1 (.slice a l c) R.length (R.map fun (r : Nat) => .int .i32 (r : Int))) : I32s w a R := by
  obtain ⟨g, hc⟩ := owns_cells h
  exact ⟨g, fun k r hk => by
    obtain ⟨e1, _, _, e4⟩ := hc k (.int .i32 (r : Int)) (by rw [List.getElem?_map, hk]; rfl)
    exact ⟨e1, e4⟩⟩
end Go.Proofs.Qxb6627355a
