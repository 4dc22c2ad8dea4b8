import Derived.Test.Qxb6630895aData
import Derived.Deep.OwnRows
import Derived.BigRegion
import Derived.WalkLawsBesides
namespace Go.Proofs.Qxb6630895a
open Go.RowKit

theorem Try.info43 : (Try.prog.info? 43).map (fun i => (i.zero, i.size, i.bytes)) = some (some (.agg #[.int .i64 0, .int .i64 0, .slice none 0 0, .bool false]), 4, 48) := by kernel_rfl
theorem Try.info44 : (Try.prog.info? 44).map (fun i => (i.zero, i.size, i.bytes)) = some (some (.slice none 0 0), 1, 24) := by kernel_rfl

/-- 'make([]flows.Flow, n)'. -/
theorem run_make_flows (n : Nat) (hn : n ≤ 1048576) (w : World) :
    (Instr.makeSlice 27 (.int .i64 (n : Int)) (.int .i64 (n : Int))).run Try.prog w = .ok (.slice (some ⟨w.heap.size, 0, none⟩) n n) (w.alloc (.cells (madeCells #[.int .i64 0, .int .i64 0, .slice none 0 0, .bool false] (n * 4)) 43)) := by
  obtain ⟨i, hi, hzz⟩ := Option.map_eq_some_iff.1 Try.info43
  simp only [Prod.mk.injEq] at hzz
  obtain ⟨hz, hs, hb⟩ := hzz
  have hr := run_make (P := Try.prog) w 27 43 i _ Try.underlying27 hi hz .i64 .i64 n n (by omega) (Int.le_refl _) (by rw [hb]; omega) (by omega)
  simp only [Int.toNat_natCast, hs] at hr
  exact hr

/-- Flow i of the new slice: its paths lie in a block of their own, and are those of the old one. -/
def DoneAt (w wr : World) (D : Inp) (s : Spots) (i : Nat) : Prop :=
  ∃ (a : Option Addr) (b cap : Nat), wr.cell? ⟨w.heap.size, i * 4 + 2, none⟩ = some (.slice a (D.PN i) cap) ∧
    ∀ j, j < D.PN i → a = some ⟨b, 0, none⟩ ∧ w.heap.size < b ∧ wr.cell? ⟨b, j, none⟩ = some (.slice (s.QA i j) (D.QN i j) (s.QC i j))

structure ToF (w wr : World) (D : Inp) (s : Spots) (k : Nat) : Prop where
  below : Below w.heap.size w wr
  row : ∃ g, wr.rowIs w.heap.size 43 (D.N * 4) g
  done : ∀ i, i < k → DoneAt w wr D s i

theorem ToF.kept {w wr wr' : World} {D : Inp} {s : Spots} {k : Nat} (h : ToF w wr D s k) (hb : Below wr.heap.size wr wr') : ToF w wr' D s k := by
  obtain ⟨g, hrow⟩ := h.row
  refine ⟨h.below.trans (hb.mono h.below.size), ⟨g, hrow.of_block (hb.block _ hrow.lt)⟩, fun i hi => ?_⟩
  obtain ⟨a, b, cap, hc, hj⟩ := h.done i hi
  refine ⟨a, b, cap, by rw [hb.cell (cell_lt hc)]; exact hc, fun j hj' => ?_⟩
  obtain ⟨h1, h2, h3⟩ := hj j hj'
  exact ⟨h1, h2, by rw [hb.cell (cell_lt h3)]; exact h3⟩

theorem ToF.start (w : World) (D : Inp) (s : Spots) : ToF w (w.alloc (.cells (madeCells #[.int .i64 0, .int .i64 0, .slice none 0 0, .bool false] (D.N * 4)) 43)) D s 0 := by
  refine ⟨(Below.refl _ _).alloc (Nat.le_refl _) _, ?_, fun i hi => absurd hi (Nat.not_lt_zero _)⟩
  have h := World.rowIs_alloc w (madeCells #[.int .i64 0, .int .i64 0, .slice none 0 0, .bool false] (D.N * 4)) 43 (fun i => (madeCells #[.int .i64 0, .int .i64 0, .slice none 0 0, .bool false] (D.N * 4))[i]!) (fun i hi => by simp [hi])
  rw [size_madeCells] at h
  exact ⟨_, h⟩

theorem ToF.step {w wr : World} {D : Inp} {s : Spots} {k : Nat} (h : ToF w wr D s k) (v0 v1 v3 : Value) (a : Option Addr) (b cap : Nat) (hk : k < D.N)
    (hdone : ∀ j, j < D.PN k → a = some ⟨b, 0, none⟩ ∧ w.heap.size < b ∧ wr.cell? ⟨b, j, none⟩ = some (.slice (s.QA k j) (D.QN k j) (s.QC k j))) :
    ToF w ((((wr.setCell ⟨w.heap.size, k * 4, none⟩ v0).setCell ⟨w.heap.size, k * 4 + 1, none⟩ v1).setCell ⟨w.heap.size, k * 4 + 2, none⟩ (.slice a (D.PN k) cap)).setCell ⟨w.heap.size, k * 4 + 3, none⟩ v3).drew D s (k + 1) := by
  obtain ⟨g, hrow⟩ := h.row
  have hr := ((((hrow.set (k * 4) v0).set (k * 4 + 1) v1).set (k * 4 + 2) (.slice a (D.PN k) cap)).set (k * 4 + 3) v3).drew
  refine ⟨((((h.below.setCell (Nat.le_refl _) _).setCell (Nat.le_refl _) _).setCell (Nat.le_refl _) _).setCell (Nat.le_refl _) _).drew, ⟨_, hr⟩, fun i hi => ?_⟩
  have other : ∀ (b j : Nat) (v : Value), w.heap.size < b → wr.cell? ⟨b, j, none⟩ = some v → ((((wr.setCell ⟨w.heap.size, k * 4, none⟩ v0).setCell ⟨w.heap.size, k * 4 + 1, none⟩ v1).setCell ⟨w.heap.size, k * 4 + 2, none⟩ (.slice a (D.PN k) cap)).setCell ⟨w.heap.size, k * 4 + 3, none⟩ v3).drew.cell? ⟨b, j, none⟩ = some v := by
    intro b j v hb hv
    rw [← hv]
    refine World.cell?_of_block (a := ⟨b, j, none⟩) ?_
    show ((((wr.setCell ⟨w.heap.size, k * 4, none⟩ v0).setCell ⟨w.heap.size, k * 4 + 1, none⟩ v1).setCell ⟨w.heap.size, k * 4 + 2, none⟩ (.slice a (D.PN k) cap)).setCell ⟨w.heap.size, k * 4 + 3, none⟩ v3).heap[b]? = _
    rw [Below.heap_setCell _ _ _ _ (by show b ≠ w.heap.size; omega), Below.heap_setCell _ _ _ _ (by show b ≠ w.heap.size; omega), Below.heap_setCell _ _ _ _ (by show b ≠ w.heap.size; omega), Below.heap_setCell _ _ _ _ (by show b ≠ w.heap.size; omega)]
  rcases Nat.lt_succ_iff_lt_or_eq.1 hi with hlt | rfl
  · obtain ⟨a', b', cap', hc, hj⟩ := h.done i hlt
    have e := hrow.cell (i := i * 4 + 2) (by omega)
    rw [hc] at e
    refine ⟨a', b', cap', ?_, fun j hj' => ?_⟩
    · rw [hr.cell (i := i * 4 + 2) (by omega), if_neg (by omega), if_neg (by omega), if_neg (by omega), if_neg (by omega)]
      exact e.symm
    · obtain ⟨h1, h2, h3⟩ := hj j hj'
      exact ⟨h1, h2, other _ _ _ h2 h3⟩
  · refine ⟨a, b, cap, ?_, fun j hj' => ?_⟩
    · rw [hr.cell (i := i * 4 + 2) (by omega), if_neg (by omega), if_pos rfl]
    · obtain ⟨h1, h2, h3⟩ := hdone j hj'
      exact ⟨h1, h2, other _ _ _ h2 h3⟩

/-- The new row of paths, m of them laid. -/
def fill (D : Inp) (s : Spots) (k m : Nat) : Nat → Value := fun j => if j < m then .slice (s.QA k j) (D.QN k j) (s.QC k j) else .slice none 0 0

structure InF (wr wi : World) (D : Inp) (s : Spots) (k m : Nat) : Prop where
  below : Below wr.heap.size wr wi
  row : wi.rowIs wr.heap.size 44 (D.PN k) (fill D s k m)

theorem InF.start (wr : World) (D : Inp) (s : Spots) (k : Nat) : InF wr (wr.alloc (.cells (madeCells #[.slice none 0 0] (D.PN k)) 44)) D s k 0 :=
  ⟨(Below.refl _ _).alloc (Nat.le_refl _) _, (World.rowIs_made wr _ _ _).congr (fun j _ => by simp [fill])⟩

theorem InF.step {wr wi : World} {D : Inp} {s : Spots} {k m : Nat} (h : InF wr wi D s k m) :
    InF wr (wi.setCell ⟨wr.heap.size, m, none⟩ (.slice (s.QA k m) (D.QN k m) (s.QC k m))) D s k (m + 1) :=
  ⟨h.below.setCell (Nat.le_refl _) _, (h.row.set m _).congr (fun j _ => by
    unfold fill
    by_cases e : j = m
    · subst e; simp
    · rw [if_neg e]
      by_cases hl : j < m
      · rw [if_pos hl, if_pos (by omega)]
      · rw [if_neg hl, if_neg (by omega)])⟩

set_option maxHeartbeats 1000000 in
theorem toflows_calls (D : Inp) (s : Spots) (w : World) (ok : D.Ok) (ht : Top w D s) (hd : Deepr w D s) (hN : D.N ≤ 1048576) (hP : ∀ i, i < D.N → D.PN i ≤ 1048576)
    (a0 : Addr) (ha : s.a = some a0) (hnil : ∀ i, i < D.N → s.PA i = none → D.PN i = 0) :
    Calls Try.prog 9 #[.slice (some a0) D.N s.cap] w (fun e w' => e = .returned (.slice (some ⟨w.heap.size, 0, none⟩) D.N D.N) ∧ ToF w w' D s D.N) := by
  have hmk := run_make_flows D.N hN
  have hq := fun (w : World) => Lib.run_eql_slice_nil (P := Try.prog) w 22 36 (some a0) D.N s.cap 0 0 Try.underlying22
  have HNIL : Hid (∀ i, i < D.N → s.PA i = none → D.PN i = 0) := hnil
  clear hnil
  go_enter Try.func9, Try.ntmps9
  go_wp2
  go_loopw [4] (fun x wr => ∃ k : Nat, k ≤ D.N ∧ x = .int .i64 k ∧ ToF w wr D s k) (fun x _ => D.N - (intOf x).toNat)
  case atStart => exact ⟨0, Nat.zero_le _, rfl, ToF.start w D s⟩
  case round =>
    obtain ⟨k, hk, rfl, hto⟩ := hrel
    obtain ⟨w1, rfl⟩ : ∃ x, x = wr := ⟨wr, rfl⟩
    by_cases hlt : k < D.N
    · have ea := ht.addr k hlt
      rw [ea] at ha
      cases ha
      have ht' := ht.below hto.below
      have hp := ht'.paths k hlt
      have hse := ht'.sent k hlt
      have hba := ht'.bad k hlt
      have hli := ht'.listed k hlt
      have hpn := ok.pn k hlt
      have hpk := hP k hlt
      cases hpa : s.PA k with
      | none =>
        have h0 : D.PN k = 0 := HNIL.out k hlt hpa
        rw [hpa] at hp
        obtain ⟨g, hrow⟩ := hto.row
        have r0 := hrow.cell (i := k * 4) (by omega)
        have r1 := hrow.cell (i := k * 4 + 1) (by omega)
        have r2 := hrow.cell (i := k * 4 + 2) (by omega)
        have r3 := hrow.cell (i := k * 4 + 3) (by omega)
        have z0 := hrow.frozen (k * 4)
        have z1 := hrow.frozen (k * 4 + 1)
        have z2 := hrow.frozen (k * 4 + 2)
        have z3 := hrow.frozen (k * 4 + 3)
        have R := hto.step (.int .i64 (s.S k)) (.int .i64 (s.Bd k)) (.bool (s.Li k)) none 0 0 hlt (fun j hj => by omega)
        rw [h0] at R
        have RH : Hid _ := R
        clear R
        go_wp2
        go_region
        go_wp2
        go_roundw
        case rel => exact ⟨k + 1, by omega, by go_num, RH.out⟩
        case measure => simp [intOf]; omega
      | some pa =>
        rw [hpa] at hp
        have hmk2 := run_make_row' (P := Try.prog) 41 44 (.slice none 0 0) 24 Try.underlying41 Try.info44 rfl .i64 .i64 (D.PN k) (by omega) (by omega)
        go_wp2
        go_loopw [6] (fun x wi => ∃ m : Nat, m ≤ D.PN k ∧ x = .int .i64 m ∧ InF w1 wi D s k m) (fun x _ => D.PN k - (intOf x).toNat)
        case atStart => exact ⟨0, Nat.zero_le _, rfl, InF.start w1 D s k⟩
        case round =>
          obtain ⟨m, hm, rfl, hin⟩ := hrel
          have ht2 := ht'.below hin.below
          have hp2 := ht2.paths k hlt
          rw [hpa] at hp2
          by_cases hltm : m < D.PN k
          · have epa := hd.paddr k m hlt hltm
            rw [hpa] at epa
            cases epa
            have hpp := ((hd.below hto.below).below hin.below).path k m hlt hltm
            have rm := hin.row.cell hltm
            have rf := hin.row.frozen m
            go_wp2
            go_roundw
            case rel => exact ⟨m + 1, by omega, by go_num, hin.step⟩
            case measure => simp [intOf]; omega
          · have hto2 := hto.kept hin.below
            have hsz := hto.below.size
            have hse2 := ht2.sent k hlt
            have hba2 := ht2.bad k hlt
            have hli2 := ht2.listed k hlt
            obtain ⟨g, hrow⟩ := hto2.row
            have hbig : w.heap.size < w1.heap.size := by
              obtain ⟨g', hrow'⟩ := hto.row
              exact hrow'.lt
            have r0 := hrow.cell (i := k * 4) (by omega)
            have r1 := hrow.cell (i := k * 4 + 1) (by omega)
            have r2 := hrow.cell (i := k * 4 + 2) (by omega)
            have r3 := hrow.cell (i := k * 4 + 3) (by omega)
            have z0 := hrow.frozen (k * 4)
            have z1 := hrow.frozen (k * 4 + 1)
            have z2 := hrow.frozen (k * 4 + 2)
            have z3 := hrow.frozen (k * 4 + 3)
            have RH : Hid _ := hto2.step (.int .i64 (s.S k)) (.int .i64 (s.Bd k)) (.bool (s.Li k)) (some ⟨w1.heap.size, 0, none⟩) w1.heap.size (D.PN k) hlt (fun j hj => ⟨rfl, hbig, by
              rw [hin.row.cell hj]
              unfold fill
              rw [if_pos (by omega)]⟩)
            go_wp2
            go_region
            go_wp2
            go_roundw
            case rel => exact ⟨k + 1, by omega, by go_num, RH.out⟩
            case measure => simp [intOf]; omega
    · have : k = D.N := by omega
      subst this
      go_wp2
      go_ret
      exact ⟨rfl, hto⟩
end Go.Proofs.Qxb6630895a
