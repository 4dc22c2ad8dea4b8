import Derived.Test.Qxb6627355aNewSet
namespace Go.Proofs.Qxb6627355a
open Go.RowKit

/-- The groups' own slices, chosen. -/
theorem grs_choose {w : World} {ga : Option Addr} {G : Nat} {Z : Nat → Int} {L : Nat → Nat} {X : Nat → Nat → Int} (h : Grs w ga G Z L X) :
    ∃ (b o : Nat) (A : Nat → Option Addr) (C : Nat → Nat), ∀ g, g < G → ga = some ⟨b, o, none⟩ ∧ w.cell? ⟨b, o + g * 2, none⟩ = some (.int .i64 (Z g)) ∧ w.cell? ⟨b, o + g * 2 + 1, none⟩ = some (.slice (A g) (L g) (C g)) ∧ L g ≤ C g ∧ (A g = none → L g = 0) ∧ Bts w (A g) (L g) (X g) := by
  obtain ⟨b, o, h⟩ := h
  obtain ⟨AC, hAC⟩ := Deep.choose_lt (α := Option Addr × Nat) (n := G) (p := fun g y => w.cell? ⟨b, o + g * 2 + 1, none⟩ = some (.slice y.1 (L g) y.2) ∧ L g ≤ y.2 ∧ (y.1 = none → L g = 0) ∧ Bts w y.1 (L g) (X g)) (fun g hg => by
    obtain ⟨_, _, A, C, r⟩ := h g hg
    exact ⟨(A, C), r⟩)
  exact ⟨b, o, fun g => (AC g).1, fun g => (AC g).2, fun g hg => ⟨(h g hg).1, (h g hg).2.1, hAC g hg⟩⟩

set_option maxHeartbeats 1000000 in
theorem groupsizes_calls {w : World} {ga : Option Addr} {G gc : Nat} {Z : Nat → Int} {L : Nat → Nat} {X : Nat → Nat → Int} (n : Int) (h : Grs w ga G Z L X) (hG : G ≤ 1048576) :
    Calls Try.prog 15 #[.agg #[.slice ga G gc, .int .i64 n]] w (IntsPost G Z w) := by
  obtain ⟨gb, go, h⟩ := h
  have HG : Hid (∀ g, g < G → ga = some ⟨gb, go, none⟩ ∧ w.cell? ⟨gb, go + g * 2, none⟩ = some (.int .i64 (Z g)) ∧ Row w ⟨gb, go + g * 2 + 1, none⟩ (L g) (X g)) := h
  clear h
  have hmk := run_make_row' (P := Try.prog) 22 3 (.int .i64 0) 8 Try.underlying22 Try.info3 rfl .i64 .i64 G (by omega) (by omega)
  go_enter Try.func15, Try.ntmps15
  go_wp2
  go_loopw [4] (fun x wr => ∃ k : Nat, k ≤ G ∧ x = .int .i64 k ∧ wr.rowIs (w.heap.size + 1) 3 G (fillZ (fun i => .int .i64 (Z i)) (.int .i64 0) k) ∧ wr.cell? ⟨w.heap.size, 0, none⟩ = some (.slice ga G gc) ∧ Below w.heap.size w wr) (fun x _ => G - (intOf x).toNat)
  case atStart =>
    refine ⟨0, Nat.zero_le _, rfl, ?_, ?_, ((Below.refl _ _).alloc (Nat.le_refl _) _).alloc (by simp) _⟩
    · have hr := World.rowIs_made (w.alloc (.cells #[.slice ga G gc, .int .i64 n] 32)) (.int .i64 0) G 3
      simp only [World.size_alloc] at hr
      exact hr.congr (fun j _ => by simp [fillZ])
    · simp
  case round =>
    obtain ⟨k, hk, rfl, hrow, hbox, hb⟩ := hrel
    by_cases hlt : k < G
    · obtain ⟨e, k1, _⟩ := HG.out k hlt
      subst e
      replace k1 := cell_keep' k1 hb
      have r1 := hrow.cell hlt
      have r2 := hrow.frozen k
      have HS : Hid _ := fill_step hrow
      have HB : Hid (Below w.heap.size w (wr.setCell ⟨w.heap.size + 1, k, none⟩ (.int .i64 (Z k)))) := hb.setCell (by show w.heap.size ≤ w.heap.size + 1; omega) _
      have HX : Hid ((wr.setCell ⟨w.heap.size + 1, k, none⟩ (.int .i64 (Z k))).cell? ⟨w.heap.size, 0, none⟩ = some (.slice (some ⟨gb, go, none⟩) G gc)) := by
        refine (World.cell?_of_block (a := ⟨w.heap.size, 0, none⟩) (Below.heap_setCell _ _ _ _ ?_)).trans hbox
        show w.heap.size ≠ w.heap.size + 1; omega
      clear hrow hb
      go_wp2
      go_roundw
      case rel => exact ⟨k + 1, by omega, by go_num, HS.out, HX.out, HB.out⟩
      case measure => simp [intOf]; omega
    · obtain rfl : k = G := by omega
      go_wp2
      go_ret
      refine ⟨_, k, rfl, ⟨w.heap.size + 1, 0, fun i hi => ⟨rfl, ?_⟩⟩, Nat.le_refl _, hb⟩
      rw [Nat.zero_add, hrow.cell hi]
      simp [fillZ, hi]

set_option maxHeartbeats 1000000 in
theorem groupprefixes_calls {w : World} {ga : Option Addr} {G gc : Nat} {Z : Nat → Int} {L : Nat → Nat} {X : Nat → Nat → Int} (n : Int) (h : Grs w ga G Z L X) (hG : G ≤ 1048576) :
    Calls Try.prog 16 #[.agg #[.slice ga G gc, .int .i64 n]] w (RowsPost G L X w) := by
  obtain ⟨gb, go, A, C, h⟩ := grs_choose h
  have HG : Hid (∀ g, g < G → ga = some ⟨gb, go, none⟩ ∧ w.cell? ⟨gb, go + g * 2, none⟩ = some (.int .i64 (Z g)) ∧ w.cell? ⟨gb, go + g * 2 + 1, none⟩ = some (.slice (A g) (L g) (C g)) ∧ L g ≤ C g ∧ (A g = none → L g = 0) ∧ Bts w (A g) (L g) (X g)) := h
  clear h
  have hmk := run_make_row' (P := Try.prog) 23 38 (.slice none 0 0) 24 Try.underlying23 Try.info38 rfl .i64 .i64 G (by omega) (by omega)
  go_enter Try.func16, Try.ntmps16
  go_wp2
  go_loopw [4] (fun x wr => ∃ k : Nat, k ≤ G ∧ x = .int .i64 k ∧ wr.rowIs (w.heap.size + 1) 38 G (fillZ (fun i => .slice (A i) (L i) (C i)) (.slice none 0 0) k) ∧ wr.cell? ⟨w.heap.size, 0, none⟩ = some (.slice ga G gc) ∧ Below w.heap.size w wr) (fun x _ => G - (intOf x).toNat)
  case atStart =>
    refine ⟨0, Nat.zero_le _, rfl, ?_, ?_, ((Below.refl _ _).alloc (Nat.le_refl _) _).alloc (by simp) _⟩
    · have hr := World.rowIs_made (w.alloc (.cells #[.slice ga G gc, .int .i64 n] 32)) (.slice none 0 0) G 38
      simp only [World.size_alloc] at hr
      exact hr.congr (fun j _ => by simp [fillZ])
    · simp
  case round =>
    obtain ⟨k, hk, rfl, hrow, hbox, hb⟩ := hrel
    by_cases hlt : k < G
    · obtain ⟨e, _, k1, _⟩ := HG.out k hlt
      subst e
      replace k1 := cell_keep' k1 hb
      have r1 := hrow.cell hlt
      have r2 := hrow.frozen k
      have HS : Hid _ := fill_step hrow
      have HB : Hid (Below w.heap.size w (wr.setCell ⟨w.heap.size + 1, k, none⟩ (.slice (A k) (L k) (C k)))) := hb.setCell (by show w.heap.size ≤ w.heap.size + 1; omega) _
      have HX : Hid ((wr.setCell ⟨w.heap.size + 1, k, none⟩ (.slice (A k) (L k) (C k))).cell? ⟨w.heap.size, 0, none⟩ = some (.slice (some ⟨gb, go, none⟩) G gc)) := by
        refine (World.cell?_of_block (a := ⟨w.heap.size, 0, none⟩) (Below.heap_setCell _ _ _ _ ?_)).trans hbox
        show w.heap.size ≠ w.heap.size + 1; omega
      clear hrow hb
      go_wp2
      go_roundw
      case rel => exact ⟨k + 1, by omega, by go_num, HS.out, HX.out, HB.out⟩
      case measure => simp [intOf]; omega
    · obtain rfl : k = G := by omega
      go_wp2
      go_ret
      refine ⟨_, k, rfl, ⟨w.heap.size + 1, 0, fun i hi => ⟨rfl, A i, C i, ?_, ?_⟩⟩, (fun e => by cases e), hb⟩
      · rw [Nat.zero_add, hrow.cell hi]
        simp [fillZ, hi]
      · obtain ⟨_, _, _, q1, q2, q3⟩ := HG.out i hi
        exact ⟨q1, q2, q3.below hb⟩

/-- A number, and no old block is touched. -/
def LenPost (r : Int) (w : World) (e : Ending) (w' : World) : Prop := e = .returned (.int .i64 r) ∧ Below w.heap.size w w'

theorem len_calls {w : World} (v : Value) (n : Int) : Calls Try.prog 18 #[.agg #[v, .int .i64 n]] w (LenPost n w) := by
  go_enter Try.func18, Try.ntmps18
  go_wp2
  go_ret
  exact ⟨rfl, (Below.refl _ _).alloc (Nat.le_refl _) _⟩
end Go.Proofs.Qxb6627355a
