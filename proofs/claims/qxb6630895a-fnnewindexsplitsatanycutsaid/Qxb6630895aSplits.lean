import Derived.Test.Qxb6630895aWell
namespace Go.Proofs.Qxb6630895a
open Go.RowKit

/-- What zzToFlows hands back, its capacity too. -/
def ToPost2 (D : Inp) (w : World) (e : Ending) (w' : World) : Prop :=
  ∃ a cap, e = .returned (.slice a D.N cap) ∧ FlowsOk w'.heap.size w' (.slice a D.N cap) D ∧ D.N ≤ cap ∧ Below w.heap.size w w'

theorem to2_calls (D : Inp) (s : Spots) (w : World) (ok : D.Ok) (ht : Top w D s) (hd : Deepr w D s) (hnil : Nils D s) (hN : D.N ≤ 1048576) (hP : SizeTo D D.N) :
    Calls Try.prog 9 #[.slice s.a D.N s.cap] w (ToPost2 D w) := by
  cases ha : s.a with
  | none =>
    refine (tonil_calls D.N s.cap w).mono ?_
    rintro e w' ⟨rfl, rfl⟩
    have h0 := hnil.top ha
    refine ⟨none, 0, by rw [h0], ⟨none, 0, 0, 0, rfl, fun i hi => by omega⟩, by omega, Below.refl _ _⟩
  | some a0 =>
    refine (toflows_calls D s w ok ht hd hN hP a0 ha hnil.paths).mono ?_
    rintro e w' ⟨rfl, hto⟩
    exact ⟨_, _, rfl, hto.flows hd, Nat.le_refl _, hto.below⟩

theorem ok_cutL {D : Inp} (ok : D.Ok) {k : Nat} (hk : k ≤ D.N) : (cutL D k).Ok :=
  ⟨Nat.le_trans hk ok.n, fun i (hi : i < k) => ok.pn i (by omega), fun i j (hi : i < k) => ok.qn i j (by omega), fun i j q (hi : i < k) => ok.c i j q (by omega)⟩
theorem ok_cutR {D : Inp} (ok : D.Ok) {k : Nat} (hk : k ≤ D.N) : (cutR D k).Ok :=
  ⟨Nat.le_trans (Nat.sub_le _ _) ok.n, fun i (hi : i < D.N - k) => ok.pn (k + i) (by omega), fun i j (hi : i < D.N - k) => ok.qn (k + i) j (by omega), fun i j q (hi : i < D.N - k) => ok.c (k + i) j q (by omega)⟩
theorem dom_cutL {D : Inp} {n : Int} (h : DomTo D n D.N) {k : Nat} (hk : k ≤ D.N) : DomTo (cutL D k) n (cutL D k).N := fun i (hi : i < k) => h i (by omega)
theorem dom_cutR {D : Inp} {n : Int} (h : DomTo D n D.N) {k : Nat} (hk : k ≤ D.N) : DomTo (cutR D k) n (cutR D k).N := fun i (hi : i < D.N - k) => h (k + i) (by omega)

theorem PathOk.mono {B B' : Nat} {w : World} {v : Value} {m : Nat} {c : Nat → Int} (h : PathOk B w v m c) (hB : B ≤ B') : PathOk B' w v m c := by
  obtain ⟨a, b, o, cap, e, h⟩ := h
  exact ⟨a, b, o, cap, e, fun q hq => let ⟨h1, h2, h3⟩ := h q hq; ⟨h1, by omega, h3⟩⟩
theorem PathsOk.mono {B B' : Nat} {w : World} {v : Value} {pn : Nat} {QN : Nat → Nat} {C : Nat → Nat → Int} (h : PathsOk B w v pn QN C) (hB : B ≤ B') : PathsOk B' w v pn QN C := by
  obtain ⟨a, b, o, cap, e, h⟩ := h
  exact ⟨a, b, o, cap, e, fun q hq => let ⟨h1, h2, v', h3, h4⟩ := h q hq; ⟨h1, by omega, v', h3, h4.mono hB⟩⟩
theorem FlowsOk.later {w w' : World} {v : Value} {D : Inp} (h : FlowsOk w.heap.size w v D) (hb : Below w.heap.size w w') : FlowsOk w'.heap.size w' v D := by
  obtain ⟨a, b, o, cap, e, h⟩ := h.below hb
  exact ⟨a, b, o, cap, e, fun q hq => let ⟨h1, h2, v', h3, h4⟩ := h q hq; ⟨h1, by have := hb.size; omega, v', h3, h4.mono hb.size⟩⟩

/-- 'all[:k]'. -/
theorem FlowsOk.left {B : Nat} {w : World} {a : Option Addr} {cap k : Nat} {D : Inp} (h : FlowsOk B w (.slice a D.N cap) D) (hk : k ≤ D.N) (cap' : Nat) : FlowsOk B w (.slice a k cap') (cutL D k) := by
  obtain ⟨a', b, o, c', e, h⟩ := h
  cases e
  exact ⟨a, b, o, cap', rfl, fun i (hi : i < k) => h i (by omega)⟩
/-- 'all[k:]'. -/
theorem FlowsOk.right {B : Nat} {w : World} {a a2 : Option Addr} {cap k : Nat} {D : Inp} (h : FlowsOk B w (.slice a D.N cap) D) (hk : k ≤ D.N) (cap' : Nat)
    (ha : ∀ b o, k < D.N → a = some ⟨b, o, none⟩ → a2 = some ⟨b, o + k * 4, none⟩) : FlowsOk B w (.slice a2 (D.N - k) cap') (cutR D k) := by
  obtain ⟨a', b, o, c', e, h⟩ := h
  cases e
  refine ⟨a2, b, o + k * 4, cap', rfl, fun i (hi : i < D.N - k) => ?_⟩
  obtain ⟨h1, h2, v', h3, h4⟩ := h (k + i) (by omega)
  exact ⟨ha b o (by omega) h1, h2, v', by rw [show o + k * 4 + i * 4 + 2 = o + (k + i) * 4 + 2 from by omega]; exact h3, h4⟩

/-! ### The three indexes beside one another -/
structure Three (D : Inp) (k m : Nat) (b bs bf b1 bs1 bf1 b2 bs2 bf2 : Nat) (fl fl1 fl2 : Nat → Int) (w0 w : World) : Prop where
  X : Idx D m b bs bf fl w
  Y : Idx (cutL D k) m b1 bs1 bf1 fl1 w
  Z : Idx (cutR D k) m b2 bs2 bf2 fl2 w
  below : Below w0.heap.size w0 w

theorem Three.kept {D : Inp} {k m b bs bf b1 bs1 bf1 b2 bs2 bf2 : Nat} {fl fl1 fl2 : Nat → Int} {w0 w w' : World} (h : Three D k m b bs bf b1 bs1 bf1 b2 bs2 bf2 fl fl1 fl2 w0 w) (hb : Below w.heap.size w w') :
    Three D k m b bs bf b1 bs1 bf1 b2 bs2 bf2 fl fl1 fl2 w0 w' := ⟨h.X.below hb, h.Y.below hb, h.Z.below hb, h.below.trans (hb.mono h.below.size)⟩

theorem cut_left {D : Inp} {k m : Nat} {fl fl1 : Nat → Int} (hk : k ≤ D.N)
    (hX : ∀ c f : Nat, c < m → f < D.N → hasF D f (c : Int) = true → fl (st D c + cnt D (c : Int) f) = (f : Int))
    (hY : ∀ c f : Nat, c < m → f < (cutL D k).N → hasF (cutL D k) f (c : Int) = true → fl1 (st (cutL D k) c + cnt (cutL D k) (c : Int) f) = (f : Int))
    {c r : Nat} (hc : c < m) (hr : r < cnt (cutL D k) (c : Int) (cutL D k).N) :
    ∃ f : Nat, fl (st D c + r) = (f : Int) ∧ fl1 (st (cutL D k) c + r) = (f : Int) ∧ st D c + r < st D m ∧ st (cutL D k) c + r < st (cutL D k) m ∧ st D c + r < st D (c + 1) ∧ st (cutL D k) c + r < st (cutL D k) (c + 1) := by
  obtain ⟨f, h1, h2, h3⟩ := rank_of hr
  have h4 := cnt_cutL D k (c : Int) f
  have hfN : f < D.N := by have : f < k := h1; omega
  have e1 := hX c f hc hfN h2
  have e2 := hY c f hc h1 h2
  have hlt := cnt_lt (D := D) (c := (c : Int)) h2 hfN
  rw [← h4, h3] at e1 hlt
  rw [h3] at e2
  refine ⟨f, e1, e2, st_in hc hlt, st_in hc hr, ?_, ?_⟩
  · simp only [st]; omega
  · simp only [st]; omega

theorem cut_right {D : Inp} {k m : Nat} {fl fl2 : Nat → Int} (hk : k ≤ D.N)
    (hX : ∀ c f : Nat, c < m → f < D.N → hasF D f (c : Int) = true → fl (st D c + cnt D (c : Int) f) = (f : Int))
    (hZ : ∀ c f : Nat, c < m → f < (cutR D k).N → hasF (cutR D k) f (c : Int) = true → fl2 (st (cutR D k) c + cnt (cutR D k) (c : Int) f) = (f : Int))
    {c r : Nat} (hc : c < m) (hr : r < cnt (cutR D k) (c : Int) (cutR D k).N) :
    ∃ f : Nat, fl (st D c + cnt (cutL D k) (c : Int) (cutL D k).N + r) = (f : Int) + (k : Int) ∧ fl2 (st (cutR D k) c + r) = (f : Int) ∧ f + k < D.N ∧ st D c + cnt (cutL D k) (c : Int) (cutL D k).N + r < st D m ∧ st (cutR D k) c + r < st (cutR D k) m ∧
      st D c + cnt (cutL D k) (c : Int) (cutL D k).N + r < st D (c + 1) ∧ st (cutR D k) c + r < st (cutR D k) (c + 1) := by
  obtain ⟨f, h1, h2, h3⟩ := rank_of hr
  have hfN : k + f < D.N := by have : f < D.N - k := h1; omega
  have h4 := cnt_cutR D k (c : Int) f
  have h5 : cnt (cutL D k) (c : Int) (cutL D k).N = cnt D (c : Int) k := cnt_cutL D k (c : Int) k
  have e1 := hX c (k + f) hc hfN h2
  have e2 := hZ c f hc h1 h2
  have hlt := cnt_lt (D := D) (c := (c : Int)) (f := k + f) h2 hfN
  rw [h4, h3, ← h5] at e1 hlt
  rw [h3] at e2
  refine ⟨f, ?_, e2, by omega, ?_, st_in hc hr, ?_, ?_⟩
  · rw [Nat.add_assoc, e1]; omega
  · rw [Nat.add_assoc]; exact st_in hc hlt
  · simp only [st]; omega
  · simp only [st]; omega

theorem cut_end {D : Inp} {k : Nat} (hk : k ≤ D.N) (c : Nat) : st D c + cnt (cutL D k) (c : Int) (cutL D k).N + cnt (cutR D k) (c : Int) (cutR D k).N = st D (c + 1) := by
  simp only [st]
  rw [cnt_cut D k hk]
  omega

set_option maxRecDepth 100000 in
set_option maxHeartbeats 4000000 in
theorem splits_calls (D : Inp) (s : Spots) (n k0 : Int) (w : World) (ok : D.Ok) (ht : Top w D s) (hd : Deepr w D s) (hnil : Nils D s) :
    Calls Try.prog 4 #[.slice s.a D.N s.cap, .int .i64 n, .int .i64 k0] w (LawPost w) := by
  have hNn := ok.n
  go_enter Try.func4, Try.ntmps4
  go_wp2_with fail
  refine (bytes2_calls D s n k0 w ok ht hd).mono ?_
  rintro e w' ⟨⟨rfl, hN, hP⟩ | rfl, rfl⟩
  rotate_left
  · go_wp2
    go_ret
    exact ⟨rfl, Below.refl _ _⟩
  go_wp2_with fail
  refine (sizeok_calls D s _ ok ht hd).mono ?_
  rintro e w2 ⟨rfl | rfl, rfl⟩
  rotate_left
  · go_wp2
    go_ret
    exact ⟨rfl, Below.refl _ _⟩
  by_cases hn0 : n < 0
  · go_wp2
    go_ret
    exact ⟨rfl, Below.refl _ _⟩
  by_cases hn1 : 65536 < n
  · go_wp2
    go_ret
    exact ⟨rfl, Below.refl _ _⟩
  by_cases hk0 : k0 < 0
  · go_wp2
    go_ret
    exact ⟨rfl, Below.refl _ _⟩
  by_cases hk1 : (D.N : Int) < k0
  · go_wp2
    go_ret
    exact ⟨rfl, Below.refl _ _⟩
  obtain ⟨m, rfl⟩ := Int.eq_ofNat_of_zero_le (show 0 ≤ n by omega)
  obtain ⟨k, rfl⟩ := Int.eq_ofNat_of_zero_le (show 0 ≤ k0 by omega)
  have hk : k ≤ D.N := by omega
  have hm : m ≤ 65536 := by omega
  go_wp2_with fail
  refine (domain_calls D s m _ ok ht hd).mono ?_
  rintro e w3 ⟨⟨rfl, hdom⟩ | rfl, rfl⟩
  rotate_left
  · go_wp2
    go_ret
    exact ⟨rfl, Below.refl _ _⟩
  go_wp2_with fail
  refine (to2_calls D s _ ok ht hd hnil hN hP).mono ?_
  rintro e w4 ⟨fa, fcap, rfl, hfl, hcap, bel4⟩
  go_wp2_with fail
  refine (new_calls D fa fcap m _ hm hN ok hdom hfl).mono ?_
  rintro e w5 ⟨b, bs, bf, fl, rfl, hidx, bel5⟩
  have hkc : (k : Int) ≤ (fcap : Int) := by omega
  have hkn : (k : Int) ≤ (D.N : Int) := by omega
  go_wp2_with fail
  have hfl5 := hfl.later bel5
  refine (new_calls (cutL D k) fa fcap m _ hm (Nat.le_trans hk hN) (ok_cutL ok hk) (dom_cutL hdom hk) (hfl5.left hk fcap)).mono ?_
  rintro e w6 ⟨b', bs', bf', fl', rfl, hidx', bel6⟩
  have hfl6 := hfl5.later bel6
  go_upto_region 14 with fail
  go_cut [10] (fun z wc => ∃ b2 bs2 bf2 fl2, z = .pointer (some ⟨b2, 0, none⟩) ∧ Idx (cutR D k) m b2 bs2 bf2 fl2 wc ∧ Below w6.heap.size w6 wc)
  case first =>
    by_cases hfk : fcap = k
    · have hR : FlowsOk w6.heap.size w6 (.slice fa (D.N - k) 0) (cutR D k) := hfl6.right hk 0 (fun b o h => by omega)
      clear hcap hkc
      subst hfk
      go_wp2_with fail
      refine (new_calls (cutR D fcap) fa 0 m _ hm (Nat.le_trans (Nat.sub_le _ _) hN) (ok_cutR ok hk) (dom_cutR hdom hk) hR).mono ?_
      rintro e w7 ⟨b2, bs2, bf2, fl2, rfl, hidx2, bel7⟩
      go_wp2_with fail
      go_meet
      exact ⟨_, _, _, _, rfl, hidx2, bel7⟩
    · go_wp2_with fail
      refine (new_calls (cutR D k) _ (fcap - k) m _ hm (Nat.le_trans (Nat.sub_le _ _) hN) (ok_cutR ok hk) (dom_cutR hdom hk) (hfl6.right hk (fcap - k) (fun b o _ h => by rw [h]; exact congrArg some (WideShapes.add_plain b o (k * 4))))).mono ?_
      rintro e w7 ⟨b2, bs2, bf2, fl2, rfl, hidx2, bel7⟩
      go_wp2_with fail
      go_meet
      exact ⟨_, _, _, _, rfl, hidx2, bel7⟩
  case rest =>
    obtain ⟨b2, bs2, bf2, fl2, rfl, hidx2, bel7⟩ := hcut
    have hth : Three D k m b bs bf b' bs' bf' b2 bs2 bf2 fl fl' fl2 w3 wc := ⟨(hidx.below bel6).below bel7, hidx'.below bel7, hidx2, ((bel4.trans (bel5.mono bel4.size)).trans (bel6.mono (Nat.le_trans bel4.size bel5.size))).trans (bel7.mono (Nat.le_trans bel4.size (Nat.le_trans bel5.size bel6.size)))⟩
    have hNL : (cutL D k).N ≤ 1048576 := Nat.le_trans hk hN
    have hNR : (cutR D k).N ≤ 1048576 := Nat.le_trans (Nat.sub_le _ _) hN
    clear hidx hidx' hidx2 bel4 bel5 bel6 bel7 hfl hfl5 hfl6 hcap hkc hkn
    go_wp2_with fail
    refine (start_calls b _ _ _ _ hth.X.sc).mono ?_
    rintro e w8 ⟨rfl, rfl⟩
    go_wp2_with fail
    refine (flows_calls b _ _ _ _ hth.X.fc).mono ?_
    rintro e w8 ⟨rfl, rfl⟩
    go_wp2_with fail
    refine (start_calls b' _ _ _ _ hth.Y.sc).mono ?_
    rintro e w8 ⟨rfl, rfl⟩
    go_wp2_with fail
    refine (flows_calls b' _ _ _ _ hth.Y.fc).mono ?_
    rintro e w8 ⟨rfl, rfl⟩
    go_wp2_with fail
    refine (start_calls b2 _ _ _ _ hth.Z.sc).mono ?_
    rintro e w8 ⟨rfl, rfl⟩
    go_wp2_with fail
    refine (flows_calls b2 _ _ _ _ hth.Z.fc).mono ?_
    rintro e w8 ⟨rfl, rfl⟩
    go_wp2_with fail
    refine (well_calls D m b bs bf fl _ hm hN hth.X).mono ?_
    rintro e w9 ⟨rfl, bel9⟩
    replace hth := hth.kept bel9
    clear bel9
    go_wp2_with fail
    refine (well_calls (cutL D k) m b' bs' bf' fl' _ hm hNL hth.Y).mono ?_
    rintro e w10 ⟨rfl, bel9⟩
    replace hth := hth.kept bel9
    clear bel9
    go_wp2_with fail
    refine (well_calls (cutR D k) m b2 bs2 bf2 fl2 _ hm hNR hth.Z).mono ?_
    rintro e w11 ⟨rfl, bel9⟩
    replace hth := hth.kept bel9
    clear bel9
    go_wp2
    have sX := st_le D m
    have sX' : m * D.N ≤ 65536 * 1048576 := Nat.mul_le_mul hm hN
    have sY := st_le (cutL D k) m
    have sY' : m * (cutL D k).N ≤ 65536 * 1048576 := Nat.mul_le_mul hm hNL
    have sZ := st_le (cutR D k) m
    have sZ' : m * (cutR D k).N ≤ 65536 * 1048576 := Nat.mul_le_mul hm hNR
    go_loopw [17] (fun x wr => ∃ c : Nat, c ≤ m ∧ x = .int .i64 c ∧ Three D k m b bs bf b' bs' bf' b2 bs2 bf2 fl fl' fl2 w3 wr) (fun x _ => m - (intOf x).toNat)
    case atStart => exact ⟨0, Nat.zero_le _, rfl, hth⟩
    case round =>
      clear hth
      obtain ⟨c, hc, rfl, hth⟩ := hrel
      by_cases hlt : c < m
      · have x0 := hth.X.srow.cell (i := c) (by omega)
        have y0 := hth.Y.srow.cell (i := c) (by omega)
        have hi1 : (c : Int) < ((m + 1 : Nat) : Int) := by omega
        go_wp2
        go_loopw [18, 19] (fun i j wr => ∃ r : Nat, r ≤ cnt (cutL D k) (c : Int) (cutL D k).N ∧ i = .int .i64 ((st D c + r : Nat) : Int) ∧ j = .int .i64 ((st (cutL D k) c + r : Nat) : Int) ∧ Three D k m b bs bf b' bs' bf' b2 bs2 bf2 fl fl' fl2 w3 wr)
          (fun _ j _ => st (cutL D k) c + cnt (cutL D k) (c : Int) (cutL D k).N - (intOf j).toNat)
        case atStart => exact ⟨0, Nat.zero_le _, rfl, rfl, hth⟩
        case round =>
          clear hth x0 y0
          obtain ⟨r, hr, rfl, rfl, hth⟩ := hrel
          have y1 := hth.Y.srow.cell (i := c + 1) (by omega)
          have hi2 : (c : Int) + 1 < ((m + 1 : Nat) : Int) := by omega
          by_cases hrl : r < cnt (cutL D k) (c : Int) (cutL D k).N
          · obtain ⟨f, f1, f2, g1, g2, g3, g4⟩ := cut_left hk hth.X.spec hth.Y.spec hlt hrl
            have x1 := hth.X.srow.cell (i := c + 1) (by omega)
            have xf := hth.X.frow.cell g1
            have yf := hth.Y.frow.cell g2
            rw [f1] at xf
            rw [f2] at yf
            clear f1 f2
            have HR : Hid (st (cutL D k) c + r < st (cutL D k) c + cnt (cutL D k) (c : Int) (cutL D k).N) := by show _ < _; omega
            generalize hpi : st D c + r = pi at *
            generalize hpj : st (cutL D k) c + r = pj at *
            have HPI : Hid (st D c + r = pi) := hpi
            have HPJ : Hid (st (cutL D k) c + r = pj) := hpj
            clear hpi hpj
            have d1 : decide (st D (c + 1) ≤ pi) = false := decide_eq_false (by omega)
            have j0 : (0 : Int) ≤ (c : Int) + 1 := by omega
            have j1 : (pi : Int) < (st D m : Int) := by omega
            have j2 : (pj : Int) < (st (cutL D k) m : Int) := by omega
            have j3 : (pj : Int) < (st (cutL D k) (c + 1) : Int) := by omega
            go_wp2
            go_quiet (fail)
            go_wp2
            go_roundw
            case rel => exact ⟨r + 1, by omega, by rw [← HPI.out]; go_num, by rw [← HPJ.out]; go_num, hth.kept (below_drewN (Below.refl _ _) _)⟩
            case measure => have := HR.out; simp [intOf]; omega
          · obtain rfl : r = cnt (cutL D k) (c : Int) (cutL D k).N := by omega
            have e1 : ¬ (((st (cutL D k) c + cnt (cutL D k) (c : Int) (cutL D k).N : Nat) : Int) < (st (cutL D k) (c + 1) : Int)) := by simp only [st]; omega
            have z0 := hth.Z.srow.cell (i := c) (by omega)
            have HE := cut_end hk c
            have HEH : Hid (st D c + cnt (cutL D k) (c : Int) (cutL D k).N + cnt (cutR D k) (c : Int) (cutR D k).N = st D (c + 1)) := HE
            clear HE
            generalize hpj : st (cutL D k) c + cnt (cutL D k) (c : Int) (cutL D k).N = pj at *
            clear hpj
            go_wp2
            go_loopw [18, 20] (fun i j wr => ∃ r : Nat, r ≤ cnt (cutR D k) (c : Int) (cutR D k).N ∧ i = .int .i64 ((st D c + cnt (cutL D k) (c : Int) (cutL D k).N + r : Nat) : Int) ∧ j = .int .i64 ((st (cutR D k) c + r : Nat) : Int) ∧ Three D k m b bs bf b' bs' bf' b2 bs2 bf2 fl fl' fl2 w3 wr)
              (fun _ j _ => st (cutR D k) c + cnt (cutR D k) (c : Int) (cutR D k).N - (intOf j).toNat)
            case atStart => exact ⟨0, Nat.zero_le _, by go_num, rfl, hth⟩
            case round =>
              clear hth z0 y1
              obtain ⟨r, hr, rfl, rfl, hth⟩ := hrel
              have z1 := hth.Z.srow.cell (i := c + 1) (by omega)
              have x1 := hth.X.srow.cell (i := c + 1) (by omega)
              by_cases hrl : r < cnt (cutR D k) (c : Int) (cutR D k).N
              · obtain ⟨f, f1, f2, f3, g1, g2, g3, g4⟩ := cut_right hk hth.X.spec hth.Z.spec hlt hrl
                have xf := hth.X.frow.cell g1
                have zf := hth.Z.frow.cell g2
                rw [f1] at xf
                rw [f2] at zf
                clear f1 f2
                have HR : Hid (st (cutR D k) c + r < st (cutR D k) c + cnt (cutR D k) (c : Int) (cutR D k).N) := by show _ < _; omega
                generalize hpi : st D c + cnt (cutL D k) (c : Int) (cutL D k).N + r = pi at *
                generalize hpj : st (cutR D k) c + r = pj at *
                have HPI : Hid (st D c + cnt (cutL D k) (c : Int) (cutL D k).N + r = pi) := hpi
                have HPJ : Hid (st (cutR D k) c + r = pj) := hpj
                clear hpi hpj
                have d1 : decide (st D (c + 1) ≤ pi) = false := decide_eq_false (by omega)
                have j0 : (0 : Int) ≤ (c : Int) + 1 := by omega
                have j1 : (pi : Int) < (st D m : Int) := by omega
                have j2 : (pj : Int) < (st (cutR D k) m : Int) := by omega
                have j3 : (pj : Int) < (st (cutR D k) (c + 1) : Int) := by omega
                have j4 : (f : Int) + (k : Int) ≤ 1048576 := by omega
                go_wp2
                go_quiet (fail)
                go_wp2
                go_roundw
                case rel => exact ⟨r + 1, by omega, by rw [← Nat.add_assoc, ← HPI.out]; go_num, by rw [← HPJ.out]; go_num, hth.kept (below_drewN (Below.refl _ _) _)⟩
                case measure => have := HR.out; simp [intOf]; omega
              · obtain rfl : r = cnt (cutR D k) (c : Int) (cutR D k).N := by omega
                rw [HEH.out]
                have e2 : ¬ (((st (cutR D k) c + cnt (cutR D k) (c : Int) (cutR D k).N : Nat) : Int) < (st (cutR D k) (c + 1) : Int)) := by simp only [st]; omega
                generalize hpj : st (cutR D k) c + cnt (cutR D k) (c : Int) (cutR D k).N = pj at *
                clear hpj
                go_wp2
                go_roundw
                case rel => exact ⟨c + 1, by omega, by go_num, hth⟩
                case measure => simp [intOf]; omega
      · obtain rfl : c = m := by omega
        go_wp2
        go_loopw [21, 22] (fun y x wr => ∃ f : Nat, f ≤ D.N ∧ x = .int .i64 f ∧ y = .int .i64 (dsum D c f : Int) ∧ Three D k c b bs bf b' bs' bf' b2 bs2 bf2 fl fl' fl2 w3 wr) (fun _ x _ => D.N - (intOf x).toNat)
        case atStart => exact ⟨0, Nat.zero_le _, rfl, rfl, hth⟩
        case round =>
          clear hth
          obtain ⟨f, hf, rfl, rfl, hth⟩ := hrel
          by_cases hltf : f < D.N
          · have ea := ht.addr f hltf
            have ht' := ht.below hth.below
            have hp := ht'.paths f hltf
            have hse := ht'.sent f hltf
            have hba := ht'.bad f hltf
            have hli := ht'.listed f hltf
            have q1 := dsum_le D c f
            have q2 : c * f ≤ 65536 * 1048576 := Nat.mul_le_mul hm (by omega)
            have q3 := dcount_le D f c
            have HS : Hid (dsum D c (f + 1) = dsum D c f + dcount D f c) := rfl
            rw [ea]
            go_wp2_with fail
            refine (distinct_calls D s f c hltf hm wr ok (hd.below hth.below) (hdom f hltf)).mono ?_
            rintro e w12 ⟨rfl, bel12⟩
            have hth2 := hth.kept bel12
            clear hth bel12 hp hse hba hli ht'
            go_wp2
            go_roundw
            case rel => exact ⟨f + 1, by omega, by go_num, by rw [HS.out]; go_num, hth2⟩
            case measure => simp [intOf]; omega
          · obtain rfl : f = D.N := by omega
            have e3 : ((st D c : Int) == (dsum D c D.N : Int)) = true := by rw [st_dsum]; simp
            go_wp2
            go_ret
            exact ⟨by simp, hth.below⟩
end Go.Proofs.Qxb6630895a
