import Derived.Test.Qxb6630895aNew
import Derived.Test.Qxb6630895aTo
import Derived.Test.Qxb6630895aSize
import Derived.Test.Qxb6630895aHas
namespace Go.Proofs.Qxb6630895a
open Go.RowKit

theorem ToF.flows {w w' : World} {D : Inp} {s : Spots} (h : ToF w w' D s D.N) (hd : Deepr w D s) : FlowsOk w'.heap.size w' (.slice (some ⟨w.heap.size, 0, none⟩) D.N D.N) D := by
  refine ⟨_, w.heap.size, 0, D.N, rfl, fun i hi => ?_⟩
  obtain ⟨a, b, cap, hc, hj⟩ := h.done i hi
  refine ⟨rfl, cell_lt hc, _, by rw [Nat.zero_add]; exact hc, ?_⟩
  refine ⟨a, b, 0, cap, rfl, fun j hj' => ?_⟩
  obtain ⟨h1, h2, h3⟩ := hj j hj'
  refine ⟨h1, cell_lt h3, _, by rw [Nat.zero_add]; exact h3, ?_⟩
  refine ⟨_, s.QB i j, s.QO i j, _, rfl, fun q hq => ?_⟩
  have h4 := (hd.below h.below).comp i j q hi hj' hq
  exact ⟨hd.qaddr i j q hi hj' hq, cell_lt h4, h4⟩

/-- What zzToFlows hands back. -/
def ToPost (D : Inp) (w : World) (e : Ending) (w' : World) : Prop :=
  ∃ a cap, e = .returned (.slice a D.N cap) ∧ FlowsOk w'.heap.size w' (.slice a D.N cap) D ∧ Below w.heap.size w w'

theorem tonil_calls (n cap : Nat) (w : World) : Calls Try.prog 9 #[.slice none n cap] w (fun e w' => e = .returned (.slice none 0 0) ∧ w' = w) := by
  have hq := fun (w : World) => Lib.run_eql_slice_nil (P := Try.prog) w 22 36 none n cap 0 0 Try.underlying22
  go_enter Try.func9, Try.ntmps9
  go_wp2
  go_ret
  exact ⟨rfl, rfl⟩

/-- What is known of a slice of flows that came in, its nils. -/
structure Nils (D : Inp) (s : Spots) : Prop where
  top : s.a = none → D.N = 0
  paths : ∀ i, i < D.N → s.PA i = none → D.PN i = 0

theorem to_calls (D : Inp) (s : Spots) (w : World) (ok : D.Ok) (ht : Top w D s) (hd : Deepr w D s) (hnil : Nils D s) (hN : D.N ≤ 1048576) (hP : SizeTo D D.N) :
    Calls Try.prog 9 #[.slice s.a D.N s.cap] w (ToPost D w) := by
  cases ha : s.a with
  | none =>
    refine (tonil_calls D.N s.cap w).mono ?_
    rintro e w' ⟨rfl, rfl⟩
    have h0 := hnil.top ha
    refine ⟨none, 0, by rw [h0], ⟨none, 0, 0, 0, rfl, fun i hi => by omega⟩, Below.refl _ _⟩
  | some a0 =>
    refine (toflows_calls D s w ok ht hd hN hP a0 ha hnil.paths).mono ?_
    rintro e w' ⟨rfl, hto⟩
    exact ⟨_, _, rfl, hto.flows hd, hto.below⟩

theorem Idx.below {D : Inp} {n b bs bf : Nat} {fl : Nat → Int} {w w' : World} (h : Idx D n b bs bf fl w) (hb : Below w.heap.size w w') : Idx D n b bs bf fl w' :=
  ⟨(hb.cell (cell_lt h.sc)).trans h.sc, (hb.cell (cell_lt h.fc)).trans h.fc, h.srow.of_block (hb.block _ h.srow.lt), h.frow.of_block (hb.block _ h.frow.lt), h.spec⟩

theorem start_calls (b : Nat) (a : Option Addr) (l c : Nat) (w : World) (h : w.cell? ⟨b, 0, none⟩ = some (.slice a l c)) :
    Calls Try.prog 10 #[.pointer (some ⟨b, 0, none⟩)] w fun e w' => e = .returned (.slice a l c) ∧ w' = w := by
  go_enter Try.func10, Try.ntmps10
  go_wp2
  go_ret
  exact ⟨rfl, rfl⟩
theorem flows_calls (b : Nat) (a : Option Addr) (l c : Nat) (w : World) (h : w.cell? ⟨b, 1, none⟩ = some (.slice a l c)) :
    Calls Try.prog 11 #[.pointer (some ⟨b, 0, none⟩)] w fun e w' => e = .returned (.slice a l c) ∧ w' = w := by
  go_enter Try.func11, Try.ntmps11
  go_wp2
  go_ret
  exact ⟨rfl, rfl⟩

/-- True, and nothing old has turned. -/
def LawPost (w : World) (e : Ending) (w' : World) : Prop := e = .returned (.bool true) ∧ Below w.heap.size w w'

set_option maxHeartbeats 1000000 in
theorem lists_calls (D : Inp) (s : Spots) (n : Int) (w : World) (ok : D.Ok) (ht : Top w D s) (hd : Deepr w D s) (hnil : Nils D s) :
    Calls Try.prog 3 #[.slice s.a D.N s.cap, .int .i64 n] w (LawPost w) := by
  go_enter Try.func3, Try.ntmps3
  go_wp2_with fail
  refine (bytes_calls D s n w ok ht hd).mono ?_
  rintro e w' ⟨⟨rfl, hN, hP⟩ | rfl, rfl⟩
  rotate_left
  · go_wp2
    go_ret
    exact ⟨rfl, Below.refl _ _⟩
  go_wp2_with fail
  refine (sizeok_calls D s _ ok ht hd).mono ?_
  rintro e w2 ⟨rfl | rfl, rfl⟩
  rotate_left
  · go_wp2
    go_ret
    exact ⟨rfl, Below.refl _ _⟩
  by_cases hn0 : n < 0
  · go_wp2
    go_ret
    exact ⟨rfl, Below.refl _ _⟩
  by_cases hn1 : 65536 < n
  · go_wp2
    go_ret
    exact ⟨rfl, Below.refl _ _⟩
  obtain ⟨k, rfl⟩ := Int.eq_ofNat_of_zero_le (show 0 ≤ n by omega)
  go_wp2_with fail
  refine (domain_calls D s k _ ok ht hd).mono ?_
  rintro e w3 ⟨⟨rfl, hdom⟩ | rfl, rfl⟩
  rotate_left
  · go_wp2
    go_ret
    exact ⟨rfl, Below.refl _ _⟩
  go_wp2_with fail
  refine (to_calls D s _ ok ht hd hnil hN hP).mono ?_
  rintro e w4 ⟨fa, fcap, rfl, hfl, bel4⟩
  go_wp2_with fail
  refine (new_calls D fa fcap k _ (by omega) hN ok hdom hfl).mono ?_
  rintro e w5 ⟨b, bs, bf, fl, rfl, hidx, bel5⟩
  have bel := bel4.trans (bel5.mono bel4.size)
  have hsc := hidx.sc
  have hfc := hidx.fc
  have hs0 : w5.cell? ⟨bs, 0, none⟩ = some (.int .i64 0) := hidx.srow.cell (i := 0) (by omega)
  have hk : k ≤ 65536 := by omega
  have b2 := st_le D k
  have b3 : k * D.N ≤ 65536 * 1048576 := Nat.mul_le_mul hk hN
  go_wp2_with fail
  refine (start_calls b _ _ _ _ hsc).mono ?_
  rintro e w6 ⟨rfl, rfl⟩
  go_wp2_with fail
  refine (flows_calls b _ _ _ _ hfc).mono ?_
  rintro e w7 ⟨rfl, rfl⟩
  go_wp2
  go_loopw [8, 9] (fun p x wr => ∃ c : Nat, c ≤ k ∧ x = .int .i64 c ∧ p = .int .i64 (st D c : Int) ∧ Idx D k b bs bf fl wr ∧ Below w3.heap.size w3 wr) (fun _ x _ => k - (intOf x).toNat)
  case atStart => exact ⟨0, Nat.zero_le _, rfl, rfl, hidx, bel⟩
  case round =>
    clear hidx bel hsc hfc hs0 bel4 bel5 hfl
    obtain ⟨c, hc, rfl, rfl, hidx, bel⟩ := hrel
    by_cases hlt : c < k
    · go_wp2
      go_loopw [8, 10] (fun p x wr => ∃ m : Nat, m ≤ D.N ∧ x = .int .i64 m ∧ p = .int .i64 ((st D c + cnt D (c : Int) m : Nat) : Int) ∧ Idx D k b bs bf fl wr ∧ Below w3.heap.size w3 wr) (fun _ x _ => D.N - (intOf x).toNat)
      case atStart => exact ⟨0, Nat.zero_le _, rfl, rfl, hidx, bel⟩
      case round =>
        clear hidx bel
        obtain ⟨m, hm, rfl, rfl, hidx, bel⟩ := hrel
        by_cases hltm : m < D.N
        · have ea := ht.addr m hltm
          have ht' := ht.below bel
          have hp := ht'.paths m hltm
          have hse := ht'.sent m hltm
          have hba := ht'.bad m hltm
          have hli := ht'.listed m hltm
          rw [ea]
          cases hh : hasF D m (c : Int) with
          | false =>
            have HS : Hid (st D c + cnt D (c : Int) (m + 1) = st D c + cnt D (c : Int) m) := by simp [cnt, hh, Hid]
            have HH : Hid (hasF D m (c : Int) = false) := hh
            clear hh
            go_wp2_with fail
            refine (has_calls D s m hltm c wr ok (hd.below bel)).mono ?_
            rintro e w6 ⟨rfl, bel6⟩
            rw [HH.out]
            have hidx6 := hidx.below bel6
            have bel7 := bel.trans (bel6.mono bel.size)
            clear hidx bel bel6 hp hse hba hli ht'
            go_wp2
            go_roundw
            case rel => exact ⟨m + 1, by omega, by go_num, by rw [HS.out]; go_num, hidx6, bel7⟩
            case measure => simp [intOf]; omega
          | true =>
            have HS : Hid (st D c + cnt D (c : Int) (m + 1) = st D c + cnt D (c : Int) m + 1) := by simp [cnt, hh, Hid]; omega
            have hpos : st D c + cnt D (c : Int) m < st D k := st_in hlt (cnt_lt hh hltm)
            have hfl : Hid (fl (st D c + cnt D (c : Int) m) = (m : Int)) := hidx.spec c m hlt hltm hh
            have HH : Hid (hasF D m (c : Int) = true) := hh
            clear hh
            go_wp2_with fail
            refine (has_calls D s m hltm c wr ok (hd.below bel)).mono ?_
            rintro e w6 ⟨rfl, bel6⟩
            rw [HH.out]
            have hidx6 := hidx.below bel6
            have bel7 := bel.trans (bel6.mono bel.size)
            have hgot := hidx6.frow.cell hpos
            rw [hfl.out] at hgot
            generalize hP0 : st D c + cnt D (c : Int) m = pos at *
            have HP0 : Hid (st D c + cnt D (c : Int) m = pos) := hP0
            have hpos' : (pos : Int) < (st D k : Int) := by omega
            clear hidx bel bel6 hp hse hba hli ht' hP0
            go_wp2
            go_roundw
            case rel => exact ⟨m + 1, by omega, by go_num, by rw [HS.out]; go_num, hidx6, bel7⟩
            case measure => simp [intOf]; omega
        · obtain rfl : m = D.N := by omega
          have hst := hidx.srow.cell (i := c + 1) (by omega)
          have e1 : (st D (c + 1) : Int) = ((st D c + cnt D (c : Int) D.N : Nat) : Int) := by simp [st]
          rw [e1] at hst
          generalize hP0 : st D c + cnt D (c : Int) D.N = pos at *
          have HE : Hid ((st D (c + 1) : Int) = (pos : Int)) := e1
          have hix : (c : Int) + 1 < ((k + 1 : Nat) : Int) := by omega
          clear e1 hP0
          go_wp2
          go_roundw
          case rel => exact ⟨c + 1, by omega, by go_num, by rw [HE.out], hidx, bel⟩
          case measure => simp [intOf]; omega
    · obtain rfl : c = k := by omega
      go_wp2
      go_ret
      exact ⟨by simp, bel⟩
end Go.Proofs.Qxb6630895a
