import Derived.Test.Qxb6630895aSeen
namespace Go.Proofs.Qxb6630895a
open Go.RowKit

/-- The struct's own copy, all of it. -/
structure Boxed4 (w wr : World) (D : Inp) (s : Spots) (i : Nat) : Prop where
  sent : wr.cell? ⟨w.heap.size, 0, none⟩ = some (.int .i64 (s.S i))
  bad : wr.cell? ⟨w.heap.size, 1, none⟩ = some (.int .i64 (s.Bd i))
  paths : wr.cell? ⟨w.heap.size, 2, none⟩ = some (.slice (s.PA i) (D.PN i) (s.PC i))
  listed : wr.cell? ⟨w.heap.size, 3, none⟩ = some (.bool (s.Li i))
  below : Below w.heap.size w wr

theorem Boxed4.kept {w wr wr' : World} {D : Inp} {s : Spots} {i : Nat} (h : Boxed4 w wr D s i) (hb : Below wr.heap.size wr wr') : Boxed4 w wr' D s i :=
  ⟨(hb.cell (cell_lt h.sent)).trans h.sent, (hb.cell (cell_lt h.bad)).trans h.bad, (hb.cell (cell_lt h.paths)).trans h.paths, (hb.cell (cell_lt h.listed)).trans h.listed, h.below.trans (hb.mono h.below.size)⟩

def DistPost (D : Inp) (f n : Nat) (w : World) (e : Ending) (w' : World) : Prop :=
  e = .returned (.int .i64 (dcount D f n : Int)) ∧ Below w.heap.size w w'

set_option maxHeartbeats 1000000 in
theorem distinct_calls (D : Inp) (s : Spots) (i n : Nat) (hi : i < D.N) (hn : n ≤ 65536) (w : World) (ok : D.Ok) (hd : Deepr w D s) (hdom : DomF D n i) :
    Calls Try.prog 15 #[.agg #[.int .i64 (s.S i), .int .i64 (s.Bd i), .slice (s.PA i) (D.PN i) (s.PC i), .bool (s.Li i)]] w (DistPost D i n w) := by
  have hpn := ok.pn i hi
  have HDOM : Hid (DomF D n i) := hdom
  clear hdom
  go_enter Try.func15, Try.ntmps15
  go_wp2
  go_loopw [3, 4] (fun y x wr => ∃ k : Nat, k ≤ D.PN i ∧ x = .int .i64 k ∧ y = .int .i64 (scount D i k 0 n : Int) ∧ Boxed4 w wr D s i) (fun _ x _ => D.PN i - (intOf x).toNat)
  case atStart => exact ⟨0, Nat.zero_le _, rfl, by rw [scount_zero]; rfl, ⟨by simp, by simp, by simp, by simp, (Below.refl _ _).alloc (Nat.le_refl _) _⟩⟩
  case round =>
    obtain ⟨k, hk, rfl, rfl, hbox⟩ := hrel
    have hp := hbox.paths
    by_cases hlt : k < D.PN i
    · have epa := hd.paddr i k hi hlt
      have hpp := (hd.below hbox.below).path i k hi hlt
      have hqn := ok.qn i k hi hlt
      rw [epa] at hp
      generalize hqa : s.QA i k = qa at hpp
      have HQA : Hid (s.QA i k = qa) := hqa
      clear hqa epa
      go_wp2
      go_loopw [3, 6] (fun y x wr => ∃ q : Nat, q ≤ D.QN i k ∧ x = .int .i64 q ∧ y = .int .i64 (scount D i k q n : Int) ∧ Boxed4 w wr D s i) (fun _ x _ => D.QN i k - (intOf x).toNat)
      case atStart => exact ⟨0, Nat.zero_le _, rfl, rfl, hbox⟩
      case round =>
        clear hbox hp hpp
        obtain ⟨q, hq, rfl, rfl, hbox⟩ := hrel
        by_cases hltq : q < D.QN i k
        · have eqa : qa = some ⟨s.QB i k, s.QO i k, none⟩ := by rw [← HQA.out]; exact hd.qaddr i k q hi hlt hltq
          subst eqa
          have hqq := (hd.below hbox.below).comp i k q hi hlt hltq
          obtain ⟨d0, d1⟩ := HDOM.out k hlt q hltq
          obtain ⟨c, hc⟩ := Int.eq_ofNat_of_zero_le d0
          rw [hc] at d1 hqq
          have HC : Hid (D.C i k q = (c : Int)) := hc
          clear d0 hc
          have b0 := hbox.sent
          have b1 := hbox.bad
          have b2 := hbox.paths
          have b3 := hbox.listed
          have hcon := seen_calls D s i hi k q hlt hq (c : Int) wr.drew ok (hd.below hbox.below.drew)
          have hcn : c < n := by omega
          have hsl := scount_le D i k q n
          cases hs : seen D i k q (c : Int) with
          | true =>
            have HE : Hid (scount D i k (q + 1) n = scount D i k q n) := scount_old HC.out hs n
            unfold SeenPost at hcon
            rw [hs] at hcon
            clear hs
            go_wp2
            go_region_with (go_at_call 19; refine hcon.mono ?_; rintro e w2 ⟨rfl, bel2⟩)
            all_goals
              have hbox2 := hbox.kept (((Below.refl wr.heap.size wr).drew).trans bel2)
              clear hcon bel2 b0 b1 b2 b3 hqq hbox
              go_wp2
              go_roundw
              case rel => exact ⟨q + 1, by omega, by go_num, by rw [HE.out], hbox2⟩
              case measure => simp [intOf]; omega
          | false =>
            have HE : Hid (scount D i k (q + 1) n = scount D i k q n + 1) := scount_new HC.out hs hcn
            unfold SeenPost at hcon
            rw [hs] at hcon
            clear hs
            go_wp2
            go_region_with (go_at_call 19; refine hcon.mono ?_; rintro e w2 ⟨rfl, bel2⟩)
            all_goals
              have hbox2 := hbox.kept (((Below.refl wr.heap.size wr).drew).trans bel2)
              clear hcon bel2 b0 b1 b2 b3 hqq hbox
              go_wp2
              go_roundw
              case rel => exact ⟨q + 1, by omega, by go_num, by rw [HE.out]; go_num, hbox2⟩
              case measure => simp [intOf]; omega
        · obtain rfl : q = D.QN i k := by omega
          go_wp2
          go_roundw
          case rel => exact ⟨k + 1, by omega, by go_num, by rw [scount_next], hbox⟩
          case measure => simp [intOf]; omega
    · obtain rfl : k = D.PN i := by omega
      go_wp2
      go_ret
      exact ⟨by rw [scount_full]; rfl, hbox.below⟩
end Go.Proofs.Qxb6630895a
