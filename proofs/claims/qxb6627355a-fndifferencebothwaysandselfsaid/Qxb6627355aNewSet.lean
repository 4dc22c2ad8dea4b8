import Derived.Test.Qxb6627355aAppend
import Derived.Deep.Slices
import Derived.BigRegion
namespace Go.Proofs.Qxb6627355a
open Go.RowKit

theorem Try.info48 : (Try.prog.info? 48).map (fun i => (i.zero, i.size, i.bytes)) = some (some (.agg #[.int .i64 0, .slice none 0 0]), 2, 32) := by kernel_rfl

/-- The cells of the first k groups. -/
def gcells (Z : Nat → Int) (V : Nat → Value) : Nat → List Value
  | 0 => []
  | k + 1 => gcells Z V k ++ [.int .i64 (Z k), V k]
theorem gcells_length (Z : Nat → Int) (V : Nat → Value) (k : Nat) : (gcells Z V k).length = k * 2 := by
  induction k with
  | zero => rfl
  | succ k ih => simp [gcells, ih]; omega
theorem gcells_get {Z : Nat → Int} {V : Nat → Value} {k g : Nat} (h : g < k) : (gcells Z V k)[g * 2]? = some (.int .i64 (Z g)) ∧ (gcells Z V k)[g * 2 + 1]? = some (V g) := by
  induction k with
  | zero => omega
  | succ k ih =>
    have hl := gcells_length Z V k
    simp only [gcells]
    rcases Nat.lt_or_ge g k with hg | hg
    · rw [List.getElem?_append_left (by omega), List.getElem?_append_left (by omega)]
      exact ih hg
    · have e : g = k := by omega
      subst e
      rw [List.getElem?_append_right (by omega), List.getElem?_append_right (by omega), hl]
      simp

/-- Groups by their cells, to groups. -/
theorem grs_of {w w0 : World} {base : Nat} {a : Option Addr} {G c : Nat} {Z : Nat → Int} {L : Nat → Nat} {X : Nat → Nat → Int} {A : Nat → Option Addr} {C : Nat → Nat} (h : w.ownsRow base 48 2 (.slice a G c) G (gcells Z (fun g => .slice (A g) (L g) (C g)) G))
    (hb : Below w0.heap.size w0 w) (hr : ∀ g, g < G → L g ≤ C g ∧ (A g = none → L g = 0) ∧ Bts w0 (A g) (L g) (X g)) : Grs w a G Z L X := by
  obtain ⟨b, hc⟩ := owns_cells h
  refine ⟨b, 0, fun g hg => ?_⟩
  obtain ⟨g1, g2⟩ := gcells_get (Z := Z) (V := fun g => .slice (A g) (L g) (C g)) hg
  obtain ⟨e1, _, _, c1⟩ := hc _ _ g1
  obtain ⟨_, _, _, c2⟩ := hc _ _ g2
  obtain ⟨r1, r2, r3⟩ := hr g hg
  exact ⟨e1, by rw [Nat.zero_add]; exact c1, A g, C g, by rw [Nat.zero_add]; exact c2, r1, r2, r3.below hb⟩

/-- The two fields of a set under way. -/
def two (v u : Value) : Nat → Value := fun i => if i = 0 then v else u
structure NewTo (w wr : World) (Z : Nat → Int) (V : Nat → Value) (k : Nat) (v : Value) : Prop where
  below : Below w.heap.size w wr
  res : ∃ f, wr.rowIs w.heap.size 32 2 f
  s : wr.rowIs (w.heap.size + 1) 32 2 (two v (.int .i64 0))
  own : wr.ownsRow (w.heap.size + 2) 48 2 v k (gcells Z V k)

theorem NewTo.step {w wr w1 w2 : World} {Z : Nat → Int} {V : Nat → Value} {k : Nat} {v v' : Value} (h : NewTo w wr Z V k v) (h1 : Below wr.heap.size wr w1) (hg : w1.grownBy w2 v.ownBlock) (ho : w2.ownsRow (w.heap.size + 2) 48 2 v' (k + 1) (gcells Z V k ++ [.int .i64 (Z k), V k])) :
    NewTo w (w2.setCell ⟨w.heap.size + 1, 0, none⟩ v') Z V (k + 1) v' := by
  obtain ⟨f, hf⟩ := h.res
  have hsz := h.s.lt
  have hne : ∀ b, b < w.heap.size + 2 → some b ≠ v.ownBlock := by
    intro b hb e
    have := (owns_block h.own e.symm).1
    omega
  have hblk : ∀ b, b < w.heap.size + 2 → w2.heap[b]? = wr.heap[b]? := fun b hb => by
    rw [hg.block b (by have := h1.size; omega) (hne b hb), h1.block b (by omega)]
  refine ⟨?_, ⟨f, (hf.of_block (hblk _ (by omega))).setOther (by show w.heap.size ≠ w.heap.size + 1; omega) _⟩, ?_, ?_⟩
  · refine ((h.below.trans (h1.mono h.below.size)).grown hg (by have := h.below.size; have := h1.size; omega) (fun b hb => ?_)).setCell (by show w.heap.size ≤ w.heap.size + 1; omega) _
    have := (owns_block h.own hb).1
    omega
  · refine ((h.s.of_block (hblk _ (by omega))).set 0 v').congr (fun j _ => ?_)
    by_cases e : j = 0
    · simp [e, two]
    · simp [e, two]
  · refine owns_kept ho (fun g hg' => ?_)
    have := (owns_block ho hg').1
    exact Below.heap_setCell _ _ _ _ (by show g ≠ w.heap.size + 1; omega)

theorem NewTo.field {w wr w1 w2 : World} {Z : Nat → Int} {V : Nat → Value} {k : Nat} {v : Value} (h : NewTo w wr Z V k v) (h1 : Below wr.heap.size wr w1) (hg : w1.grownBy w2 v.ownBlock) :
    w2.cell? ⟨w.heap.size + 1, 0, none⟩ = some v ∧ w2.frozen? ⟨w.heap.size + 1, 0, none⟩ = false := by
  have hsz := h.s.lt
  have hne : some (w.heap.size + 1) ≠ v.ownBlock := by
    intro e
    have := (owns_block h.own e.symm).1
    omega
  have hr := h.s.of_block (w' := w2) (by rw [hg.block _ (by have := h1.size; omega) hne, h1.block _ hsz])
  exact ⟨hr.cell (i := 0) (by omega), hr.frozen 0⟩

def SetPost (G : Nat) (Z : Nat → Int) (L : Nat → Nat) (X : Nat → Nat → Int) (n : Int) (w : World) (e : Ending) (w' : World) : Prop :=
  ∃ a c, e = .returned (.agg #[.slice a G c, .int .i64 n]) ∧ Grs w' a G Z L X ∧ Below w.heap.size w w'

set_option maxHeartbeats 2000000 in
theorem newset_calls {w : World} {a1 a2 : Option Addr} {G c1 c2 : Nat} {Z : Nat → Int} {L : Nat → Nat} {X : Nat → Nat → Int} (n : Int) (h1 : Ints w a1 G Z) (h2 : Rws w a2 G L X) (hG : G ≤ 1048576) :
    Calls Try.prog 11 #[.slice a1 G c1, .slice a2 G c2, .int .i64 n] w (SetPost G Z L X n w) := by
  obtain ⟨zb, zo, hz⟩ := h1
  obtain ⟨rb, ro, hr⟩ := h2
  obtain ⟨AC, hAC⟩ := Deep.choose_lt (α := Option Addr × Nat) (n := G) (p := fun g y => w.cell? ⟨rb, ro + g, none⟩ = some (.slice y.1 (L g) y.2) ∧ L g ≤ y.2 ∧ (y.1 = none → L g = 0) ∧ Bts w y.1 (L g) (X g)) (fun g hg => by
    obtain ⟨_, A, C, r⟩ := hr g hg
    exact ⟨(A, C), r⟩)
  obtain ⟨A, hA⟩ : ∃ A : Nat → Option Addr, A = fun g => (AC g).1 := ⟨_, rfl⟩
  obtain ⟨C, hC⟩ : ∃ C : Nat → Nat, C = fun g => (AC g).2 := ⟨_, rfl⟩
  have hrow : ∀ g, g < G → w.cell? ⟨rb, ro + g, none⟩ = some (.slice (A g) (L g) (C g)) ∧ L g ≤ C g ∧ (A g = none → L g = 0) ∧ Bts w (A g) (L g) (X g) := fun g hg => by rw [hA, hC]; exact hAC g hg
  clear hAC
  have HROW : Hid (∀ g, g < G → w.cell? ⟨rb, ro + g, none⟩ = some (.slice (A g) (L g) (C g)) ∧ L g ≤ C g ∧ (A g = none → L g = 0) ∧ Bts w (A g) (L g) (X g)) := hrow
  clear hrow hA hC AC
  have hadr : ∀ g, g < G → a2 = some ⟨rb, ro, none⟩ := fun g hg => (hr g hg).1
  have HADR : Hid (∀ g, g < G → a2 = some ⟨rb, ro, none⟩) := hadr
  have HZ : Hid (∀ g, g < G → a1 = some ⟨zb, zo, none⟩ ∧ w.cell? ⟨zb, zo + g, none⟩ = some (.int .i64 (Z g))) := hz
  clear hr hadr hz
  obtain ⟨i0, hi, hz0, hz1, hz2⟩ := info_parts Try.info48
  go_enter Try.func11, Try.ntmps11
  go_wp2
  go_loopw [8] (fun x wr => ∃ k : Nat, k ≤ G ∧ x = .int .i64 k ∧ ∃ v, NewTo w wr Z (fun g => .slice (A g) (L g) (C g)) k v) (fun x _ => G - (intOf x).toNat)
  case atStart =>
    refine ⟨0, Nat.zero_le _, rfl, .slice none 0 0, ((Below.refl _ _).alloc (Nat.le_refl _) _).alloc (by simp) _, ⟨_, (World.rowIs_alloc w _ 32 (two (.slice none 0 0) (.int .i64 0)) ?_).alloc _⟩, ?_, World.ownsRow_nil _ _ _ _⟩
    · intro i hi; match i, hi with
      | 0, _ => rfl
      | 1, _ => rfl
    · have h := World.rowIs_alloc (w.alloc (.cells #[.slice none 0 0, .int .i64 0] 32)) #[.slice none 0 0, .int .i64 0] 32 (two (.slice none 0 0) (.int .i64 0)) (by
        intro i hi; match i, hi with
        | 0, _ => rfl
        | 1, _ => rfl)
      simp only [World.size_alloc] at h
      exact h
  case round =>
    obtain ⟨k, hk, rfl, v, hto⟩ := hrel
    by_cases hlt : k < G
    · obtain ⟨ea, k1⟩ := HZ.out k hlt
      subst ea
      have ea2 := HADR.out k hlt
      subst ea2
      obtain ⟨k2, _⟩ := HROW.out k hlt
      replace k1 := cell_keep' k1 hto.below
      replace k2 := cell_keep' k2 hto.below
      have s0 := hto.s.cell (i := 0) (by omega)
      have s1 := hto.s.frozen 0
      have hsz := hto.s.lt
      obtain ⟨va, vl, vc, rfl, hvl⟩ := owns_form hto.own
      subst hvl
      simp only [two, if_true] at s0
      have hgi : (vl : Int) < (G : Int) := by omega
      have hcap : vl + 1 ≤ maxLen := by unfold maxLen; omega
      go_wp2
      go_region_law (refine step_append_apart rfl (.tmp 22) (.tmp 32) 30 rfl (w.heap.size + 2) 48 i0 (.agg #[.int .i64 0, .slice none 0 0]) 2 32 Try.underlying30 hi hz0 hz1 hz2 rfl (by decide) (.slice va vl vc) vl (gcells Z (fun g => .slice (A g) (L g) (C g)) vl) (by simp [Act.eval]) (by first | exact hto.own.alloc _ | exact (hto.own.alloc _).drew | exact hto.own.drew.alloc _) ⟨wr.heap.size, 0, none⟩ 1 1 [.int .i64 (Z vl), .slice (A vl) (L vl) (C vl)] (by simp [Act.eval]) rfl (by intro j u hj; match j, hj with | 0, hj => simp at hj; subst hj; simp [Addr.add] | 1, hj => simp at hj; subst hj; simp [Addr.add]) (by intro u hu; simp at hu; rcases hu with rfl | rfl <;> rfl) hcap (by omega) (by simp; omega) ?_; intro v' w' hown' hgrow' _; have hfld := hto.field (by first | exact (Below.refl _ _).alloc (Nat.le_refl _) _ | exact ((Below.refl _ _).alloc (Nat.le_refl _) _).drew | exact ((Below.refl _ _).drew).alloc (Nat.le_refl _) _) hgrow'; have hst := hto.step (by first | exact (Below.refl _ _).alloc (Nat.le_refl _) _ | exact ((Below.refl _ _).alloc (Nat.le_refl _) _).drew | exact ((Below.refl _ _).drew).alloc (Nat.le_refl _) _) hgrow' hown'; obtain ⟨f1, f2⟩ := hfld; obtain ⟨va', vl', vc', rfl, hvl'⟩ := owns_form hown'; subst hvl'; clear hown' hgrow')
      all_goals
        clear f1 f2
        go_wp2
        go_roundw
        case rel => exact ⟨vl + 1, by omega, by go_num, _, hst⟩
        case measure => simp [intOf]; omega
    · obtain rfl : k = G := by omega
      obtain ⟨va, vl, vc, rfl, hvl⟩ := owns_form hto.own
      subst hvl
      have s0 : wr.cell? ⟨w.heap.size + 1, 0, none⟩ = some (.slice va vl vc) := hto.s.cell (i := 0) (by omega)
      have s1 : wr.cell? ⟨w.heap.size + 1, 1, none⟩ = some (.int .i64 0) := hto.s.cell (i := 1) (by omega)
      have s2 := hto.s.frozen 1
      obtain ⟨f, hf⟩ := hto.res
      have r0 := hf.cell (i := 0) (by omega)
      have r1 := hf.cell (i := 1) (by omega)
      have r2 := hf.frozen 0
      have r3 := hf.frozen 1
      have hne : ∀ g, (Value.slice va vl vc).ownBlock = some g → w.heap.size + 2 ≤ g := fun g hg => (owns_block hto.own hg).1
      have hbel : Hid (Below w.heap.size w (((wr.setCell ⟨w.heap.size + 1, 1, none⟩ (.int .i64 n)).setCell ⟨w.heap.size, 0, none⟩ (.slice va vl vc)).setCell ⟨w.heap.size, 1, none⟩ (.int .i64 n))) :=
        ((hto.below.setCell (by show w.heap.size ≤ w.heap.size + 1; omega) _).setCell (Nat.le_refl _) _).setCell (Nat.le_refl _) _
      have hgr : Hid (Grs (((wr.setCell ⟨w.heap.size + 1, 1, none⟩ (.int .i64 n)).setCell ⟨w.heap.size, 0, none⟩ (.slice va vl vc)).setCell ⟨w.heap.size, 1, none⟩ (.int .i64 n)) va vl Z L X) := by
        refine grs_of (A := A) (C := C) (owns_kept hto.own (fun g hg => ?_)) hbel.out (fun g hg => (HROW.out g hg).2)
        have := hne g hg
        rw [Below.heap_setCell _ _ _ _ (by show g ≠ w.heap.size; omega), Below.heap_setCell _ _ _ _ (by show g ≠ w.heap.size; omega), Below.heap_setCell _ _ _ _ (by show g ≠ w.heap.size + 1; omega)]
      clear hne
      have hback := ((hf.setOther (a := ⟨w.heap.size + 1, 1, none⟩) (by show w.heap.size ≠ w.heap.size + 1; omega) (.int .i64 n)).set 0 (.slice va vl vc)).set 1 (.int .i64 n)
      have HB0 : Hid (World.cell? (((wr.setCell ⟨w.heap.size + 1, 1, none⟩ (.int .i64 n)).setCell ⟨w.heap.size, 0, none⟩ (.slice va vl vc)).setCell ⟨w.heap.size, 1, none⟩ (.int .i64 n)) ⟨w.heap.size, 0, none⟩ = some (.slice va vl vc)) := hback.cell (i := 0) (by omega)
      have HB1 : Hid (World.cell? (((wr.setCell ⟨w.heap.size + 1, 1, none⟩ (.int .i64 n)).setCell ⟨w.heap.size, 0, none⟩ (.slice va vl vc)).setCell ⟨w.heap.size, 1, none⟩ (.int .i64 n)) ⟨w.heap.size, 1, none⟩ = some (.int .i64 n)) := hback.cell (i := 1) (by omega)
      clear hback
      go_wp2
      exact bodyPost_ret (v := .agg #[.slice va vl vc, .int .i64 n]) (by simp [results, Try.results11, go_sem, HB0.out, HB1.out]) rfl ⟨va, vc, rfl, hgr.out, hbel.out⟩
end Go.Proofs.Qxb6627355a
