import Derived.Test.Qxb6627355aValid
import Derived.WalkLawsBesides
namespace Go.Proofs.Qxb6627355a
open Go.RowKit

theorem Try.info3 : (Try.prog.info? 3).map (fun i => (i.zero, i.size, i.bytes)) = some (some (.int .i64 0), 1, 8) := by kernel_rfl
theorem Try.info5 : (Try.prog.info? 5).map (fun i => (i.zero, i.size, i.bytes)) = some (some (.int .u8 0), 1, 1) := by kernel_rfl
theorem Try.info38 : (Try.prog.info? 38).map (fun i => (i.zero, i.size, i.bytes)) = some (some (.slice none 0 0), 1, 24) := by kernel_rfl

/-! ### zzCloneInts -/
def IntsPost (n : Nat) (Z : Nat → Int) (w : World) (e : Ending) (w' : World) : Prop :=
  ∃ a cap, e = .returned (.slice a n cap) ∧ Ints w' a n Z ∧ n ≤ cap ∧ Below w.heap.size w w'

/-- A row that is being filled. -/
def fillZ (f : Nat → Value) (z : Value) (k : Nat) : Nat → Value := fun i => if i < k then f i else z
theorem fill_step {wr : World} {b t n k : Nat} {f : Nat → Value} {z : Value} (h : wr.rowIs b t n (fillZ f z k)) : (wr.setCell ⟨b, k, none⟩ (f k)).rowIs b t n (fillZ f z (k + 1)) :=
  (h.set k _).congr (fun j _ => by
    unfold fillZ
    by_cases e : j = k
    · subst e; simp
    · rw [if_neg e]
      by_cases hl : j < k
      · rw [if_pos hl, if_pos (by omega)]
      · rw [if_neg hl, if_neg (by omega)])

set_option maxHeartbeats 1000000 in
theorem cloneints_calls {w : World} {a : Option Addr} {n c : Nat} {Z : Nat → Int} (h : Ints w a n Z) (ha : a = none → n = 0) (hn : n ≤ 1048576) :
    Calls Try.prog 8 #[.slice a n c] w (IntsPost n Z w) := by
  have hq := fun (w : World) => Lib.run_eql_slice_nil (P := Try.prog) w 22 3 a n c 0 0 Try.underlying22
  cases a with
  | none =>
    obtain rfl := ha rfl
    go_enter Try.func8, Try.ntmps8
    go_wp2
    go_ret
    exact ⟨none, 0, rfl, h, Nat.le_refl _, Below.refl _ _⟩
  | some p =>
    obtain ⟨b, o, h⟩ := h
    have hmk := run_make_row' (P := Try.prog) 22 3 (.int .i64 0) 8 Try.underlying22 Try.info3 rfl .i64 .i64 n (by omega) (by omega)
    go_enter Try.func8, Try.ntmps8
    go_wp2
    go_loopw [4] (fun x wr => ∃ k : Nat, k ≤ n ∧ x = .int .i64 k ∧ wr.rowIs w.heap.size 3 n (fillZ (fun i => .int .i64 (Z i)) (.int .i64 0) k) ∧ Below w.heap.size w wr) (fun x _ => n - (intOf x).toNat)
    case atStart => exact ⟨0, Nat.zero_le _, rfl, (World.rowIs_made w _ _ _).congr (fun j _ => by simp [fillZ]), (Below.refl _ _).alloc (Nat.le_refl _) _⟩
    case round =>
      obtain ⟨k, hk, rfl, hrow, hb⟩ := hrel
      by_cases hlt : k < n
      · obtain ⟨e, k1⟩ := h k hlt
        cases e
        replace k1 := cell_keep' k1 hb
        have r1 := hrow.cell hlt
        have r2 := hrow.frozen k
        have HS : Hid _ := fill_step hrow
        have HB : Hid (Below w.heap.size w (wr.setCell ⟨w.heap.size, k, none⟩ (.int .i64 (Z k)))) := hb.setCell (Nat.le_refl _) _
        clear hrow hb h
        go_wp2
        go_roundw
        case rel => exact ⟨k + 1, by omega, by go_num, HS.out, HB.out⟩
        case measure => simp [intOf]; omega
      · obtain rfl : k = n := by omega
        go_wp2
        go_ret
        refine ⟨_, k, rfl, ⟨w.heap.size, 0, fun i hi => ⟨rfl, ?_⟩⟩, Nat.le_refl _, hb⟩
        rw [Nat.zero_add, hrow.cell hi]
        simp [fillZ, hi]

/-! ### zzClone -/
def RowsPost (G : Nat) (L : Nat → Nat) (X : Nat → Nat → Int) (w : World) (e : Ending) (w' : World) : Prop :=
  ∃ a cap, e = .returned (.slice a G cap) ∧ Rws w' a G L X ∧ (a = none → G = 0) ∧ Below w.heap.size w w'

/-- Row g of the copy. -/
def DoneR (w wr : World) (L : Nat → Nat) (X : Nat → Nat → Int) (g : Nat) : Prop :=
  ∃ (A : Option Addr) (C b : Nat), wr.cell? ⟨w.heap.size, g, none⟩ = some (.slice A (L g) C) ∧ L g ≤ C ∧ (A = none → L g = 0) ∧
    ∀ i, i < L g → A = some ⟨b, 0, none⟩ ∧ w.heap.size < b ∧ wr.cell? ⟨b, i, none⟩ = some (.int .u8 (X g i)) ∧ 0 ≤ X g i ∧ X g i ≤ 255
structure CloneTo (w wr : World) (G : Nat) (L : Nat → Nat) (X : Nat → Nat → Int) (k : Nat) : Prop where
  below : Below w.heap.size w wr
  row : ∃ g, wr.rowIs w.heap.size 38 G g ∧ ∀ i, k ≤ i → i < G → g i = .slice none 0 0
  done : ∀ g, g < k → DoneR w wr L X g

theorem CloneTo.kept {w wr wr' : World} {G : Nat} {L : Nat → Nat} {X : Nat → Nat → Int} {k : Nat} (h : CloneTo w wr G L X k) (hb : Below wr.heap.size wr wr') : CloneTo w wr' G L X k := by
  obtain ⟨g, hrow, hg⟩ := h.row
  refine ⟨h.below.trans (hb.mono h.below.size), ⟨g, hrow.of_block (hb.block _ hrow.lt), hg⟩, fun i hi => ?_⟩
  obtain ⟨A, C, b, h1, h2, h3, h4⟩ := h.done i hi
  exact ⟨A, C, b, cell_keep' h1 hb, h2, h3, fun j hj => let ⟨e1, e2, e3, e4⟩ := h4 j hj; ⟨e1, e2, cell_keep' e3 hb, e4⟩⟩

theorem CloneTo.start (w : World) (G : Nat) (L : Nat → Nat) (X : Nat → Nat → Int) : CloneTo w (w.alloc (.cells (madeCells #[.slice none 0 0] G) 38)) G L X 0 :=
  ⟨(Below.refl _ _).alloc (Nat.le_refl _) _, ⟨_, World.rowIs_made w _ _ _, fun _ _ _ => rfl⟩, fun _ h => absurd h (Nat.not_lt_zero _)⟩

/-- A nil row: nothing is stored. -/
theorem CloneTo.skip {w wr : World} {G : Nat} {L : Nat → Nat} {X : Nat → Nat → Int} {k : Nat} (h : CloneTo w wr G L X k) (hk : k < G) (h0 : L k = 0) : CloneTo w wr G L X (k + 1) := by
  obtain ⟨g, hrow, hg⟩ := h.row
  refine ⟨h.below, ⟨g, hrow, fun i h1 h2 => hg i (by omega) h2⟩, fun i hi => ?_⟩
  rcases Nat.lt_succ_iff_lt_or_eq.1 hi with hl | rfl
  · exact h.done i hl
  · refine ⟨none, 0, 0, ?_, by omega, fun _ => h0, fun j hj => by omega⟩
    rw [hrow.cell hk, hg i (Nat.le_refl _) hk, h0]

theorem CloneTo.step {w wr : World} {G : Nat} {L : Nat → Nat} {X : Nat → Nat → Int} {k b : Nat} (h : CloneTo w wr G L X k) (hk : k < G) (hb : w.heap.size < b)
    (hrow' : wr.rowIs b 5 (L k) (fun i => .int .u8 (X k i))) (hX : ∀ i, i < L k → 0 ≤ X k i ∧ X k i ≤ 255) :
    CloneTo w (wr.setCell ⟨w.heap.size, k, none⟩ (.slice (some ⟨b, 0, none⟩) (L k) (L k))) G L X (k + 1) := by
  obtain ⟨g, hrow, hg⟩ := h.row
  have hr := hrow.set k (.slice (some ⟨b, 0, none⟩) (L k) (L k))
  have other : ∀ (b' j : Nat) (v : Value), w.heap.size < b' → wr.cell? ⟨b', j, none⟩ = some v → (wr.setCell ⟨w.heap.size, k, none⟩ (.slice (some ⟨b, 0, none⟩) (L k) (L k))).cell? ⟨b', j, none⟩ = some v := by
    intro b' j v hb' hv
    rw [← hv]
    exact World.cell?_of_block (a := ⟨b', j, none⟩) (Below.heap_setCell _ _ _ _ (by show b' ≠ w.heap.size; omega))
  refine ⟨h.below.setCell (Nat.le_refl _) _, ⟨_, hr, fun i h1 h2 => by rw [if_neg (by omega)]; exact hg i (by omega) h2⟩, fun i hi => ?_⟩
  rcases Nat.lt_succ_iff_lt_or_eq.1 hi with hl | rfl
  · obtain ⟨A, C, b', h1, h2, h3, h4⟩ := h.done i hl
    refine ⟨A, C, b', ?_, h2, h3, fun j hj => let ⟨e1, e2, e3, e4⟩ := h4 j hj; ⟨e1, e2, other _ _ _ e2 e3, e4⟩⟩
    rw [hr.cell (i := i) (by omega), if_neg (by omega), ← hrow.cell (i := i) (by omega), h1]
  · refine ⟨some ⟨b, 0, none⟩, L i, b, ?_, Nat.le_refl _, (fun e => by cases e), fun j hj => ⟨rfl, hb, other _ _ _ hb (hrow'.cell hj), hX j hj⟩⟩
    rw [hr.cell (i := i) hk, if_pos rfl]

theorem CloneTo.rows {w wr : World} {G : Nat} {L : Nat → Nat} {X : Nat → Nat → Int} (h : CloneTo w wr G L X G) : Rws wr (some ⟨w.heap.size, 0, none⟩) G L X := by
  refine ⟨w.heap.size, 0, fun g hg => ⟨rfl, ?_⟩⟩
  obtain ⟨A, C, b, h1, h2, h3, h4⟩ := h.done g hg
  refine ⟨A, C, by rw [Nat.zero_add]; exact h1, h2, h3, b, 0, fun i hi => ?_⟩
  obtain ⟨e1, _, e3, e4⟩ := h4 i hi
  exact ⟨e1, by rw [Nat.zero_add]; exact e3, e4⟩

set_option maxHeartbeats 1000000 in
theorem clone_calls {w : World} {a : Option Addr} {G c : Nat} {L : Nat → Nat} {X : Nat → Nat → Int} (h : Rws w a G L X) (ha : a = none → G = 0) (hG : G ≤ 1048576) (hL : ∀ g, g < G → L g ≤ 1048576) :
    Calls Try.prog 9 #[.slice a G c] w (RowsPost G L X w) := by
  have hq := fun (w : World) => Lib.run_eql_slice_nil (P := Try.prog) w 23 38 a G c 0 0 Try.underlying23
  cases a with
  | none =>
    obtain rfl := ha rfl
    go_enter Try.func9, Try.ntmps9
    go_wp2
    go_ret
    exact ⟨none, 0, rfl, h, fun _ => rfl, Below.refl _ _⟩
  | some p =>
    obtain ⟨b, o, h⟩ := h
    have hmk := run_make_row' (P := Try.prog) 23 38 (.slice none 0 0) 24 Try.underlying23 Try.info38 rfl .i64 .i64 G (by omega) (by omega)
    go_enter Try.func9, Try.ntmps9
    go_wp2
    go_loopw [4] (fun x wr => ∃ k : Nat, k ≤ G ∧ x = .int .i64 k ∧ CloneTo w wr G L X k) (fun x _ => G - (intOf x).toNat)
    case atStart => exact ⟨0, Nat.zero_le _, rfl, CloneTo.start w G L X⟩
    case round =>
      obtain ⟨k, hk, rfl, hto⟩ := hrel
      obtain ⟨w1, rfl⟩ : ∃ x, x = wr := ⟨wr, rfl⟩
      by_cases hlt : k < G
      · obtain ⟨e, A, C, k1, k2, k3, k4⟩ := h k hlt
        cases e
        have k1' := cell_keep' k1 hto.below
        have hl := hL k hlt
        have hq2 := fun (w : World) (n : Nat) => Lib.run_eql_slice_nil (P := Try.prog) w 38 5 A n C 0 0 Try.underlying38
        cases A with
        | none =>
          have h0 := k3 rfl
          have HS : Hid (CloneTo w w1 G L X (k + 1)) := hto.skip hlt h0
          clear h hto
          go_wp2
          go_roundw
          case rel => exact ⟨k + 1, by omega, by go_num, HS.out⟩
          case measure => simp [intOf]; omega
        | some pa =>
          have hmk2 := run_make_row' (P := Try.prog) 38 5 (.int .u8 0) 1 Try.underlying38 Try.info5 rfl .i64 .i64 (L k) (by omega) (by omega)
          have hbig : w.heap.size < w1.heap.size := by
            obtain ⟨g, hrow, _⟩ := hto.row
            exact hrow.lt
          go_wp2
          go_loopw [6] (fun x wi => ∃ m : Nat, m ≤ L k ∧ x = .int .i64 m ∧ wi.rowIs w1.heap.size 5 (L k) (fillZ (fun i => .int .u8 (X k i)) (.int .u8 0) m) ∧ Below w1.heap.size w1 wi) (fun x _ => L k - (intOf x).toNat)
          case atStart => exact ⟨0, Nat.zero_le _, rfl, (World.rowIs_made w1 _ _ _).congr (fun j _ => by simp [fillZ]), (Below.refl _ _).alloc (Nat.le_refl _) _⟩
          case round =>
            obtain ⟨m, hm, rfl, hrow, hb⟩ := hrel
            have k1'' := cell_keep' k1' hb
            by_cases hltm : m < L k
            · obtain ⟨pb, po, k5⟩ := k4
              obtain ⟨e, k6, _⟩ := k5 m hltm
              cases e
              replace k6 := cell_keep' (cell_keep' k6 hto.below) hb
              have r1 := hrow.cell hltm
              have r2 := hrow.frozen m
              have HS : Hid _ := fill_step hrow
              have HB : Hid (Below w1.heap.size w1 (wr.setCell ⟨w1.heap.size, m, none⟩ (.int .u8 (X k m)))) := hb.setCell (Nat.le_refl _) _
              clear hrow hb h k5 k1'
              go_wp2
              go_roundw
              case rel => exact ⟨m + 1, by omega, by go_num, HS.out, HB.out⟩
              case measure => simp [intOf]; omega
            · obtain rfl : m = L k := by omega
              have hto2 := hto.kept hb
              have hrow2 : wr.rowIs w1.heap.size 5 (L k) (fun i => .int .u8 (X k i)) := hrow.congr (fun j hj => by simp [fillZ, hj])
              have HS : Hid (CloneTo w (wr.setCell ⟨w.heap.size, k, none⟩ (.slice (some ⟨w1.heap.size, 0, none⟩) (L k) (L k))) G L X (k + 1)) := hto2.step hlt hbig hrow2 (Bts.bounds k4)
              obtain ⟨g, hrg, _⟩ := hto2.row
              have r1 := hrg.cell hlt
              have r2 := hrg.frozen k
              clear hrow hrow2 hto2 hb hrg hto k1'
              go_wp2
              go_roundw
              case rel => exact ⟨k + 1, by omega, by go_num, HS.out⟩
              case measure => simp [intOf]; omega
      · obtain rfl : k = G := by omega
        go_wp2
        go_ret
        exact ⟨_, k, rfl, hto.rows, (fun e => by cases e), hto.below⟩
end Go.Proofs.Qxb6627355a
