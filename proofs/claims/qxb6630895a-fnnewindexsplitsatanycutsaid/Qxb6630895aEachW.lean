import Derived.Test.Qxb6630895aEach
import Derived.Test.Qxb6630895aDom
namespace Go.Proofs.Qxb6630895a
open Go.RowKit

set_option maxHeartbeats 1000000 in
theorem each17 (B : Nat) (D : Inp) (fsv : Value) (n : Nat) (I : (Nat → Nat) → World → Prop) (S : Nat) (w : World)
    (hn : n ≤ 65536) (hN : D.N ≤ 1048576) (ok : D.Ok) (hdom : DomTo D n D.N)
    (env : Env B D fsv n w) (hrow0 : ∃ h, w.rowIs (B + 1) 21 n h) (inv0 : I (fun _ => 0) w)
    (stab : ∀ V w i v, I V w → I V (w.setCell ⟨B + 1, i, none⟩ v))
    (hv : ∀ (V : Nat → Nat) (c f : Nat) (w : World), I V w → c < n → f < D.N → V c = cnt D (c : Int) f → hasF D f (c : Int) = true →
      Calls Try.prog 17 #[.int .i32 (f : Int), .int .i32 (c : Int), .pointer (some ⟨S, 0, none⟩)] w fun e w' => e = .returned (.tuple #[]) ∧ I (fun x => V x + if x = c then 1 else 0) w' ∧ Below (B + 3) w w') :
    Calls Try.prog 16 #[.func (.func 17) #[] #[.pointer (some ⟨S, 0, none⟩)], .pointer (some ⟨B + 2, 0, none⟩), .pointer (some ⟨B, 0, none⟩)] w fun e w' => e = .returned (.tuple #[]) ∧ Est B D fsv n I w D.N 0 0 w' := by
  have STAB : Hid (∀ V w i v, I V w → I V (w.setCell ⟨B + 1, i, none⟩ v)) := stab
  have HV : Hid (∀ (V : Nat → Nat) (c f : Nat) (w : World), I V w → c < n → f < D.N → V c = cnt D (c : Int) f → hasF D f (c : Int) = true →
      Calls Try.prog 17 #[.int .i32 (f : Int), .int .i32 (c : Int), .pointer (some ⟨S, 0, none⟩)] w fun e w' => e = .returned (.tuple #[]) ∧ I (fun x => V x + if x = c then 1 else 0) w' ∧ Below (B + 3) w w') := hv
  clear stab hv
  have hlf := env.lf
  go_enter Try.func16, Try.ntmps16
  go_wp2
  go_loopw [12] (fun x wr => ∃ k : Nat, k ≤ n ∧ x = .int .i64 k ∧ Ini B D fsv n I w k wr) (fun x _ => n - (intOf x).toNat)
  case atStart => exact ⟨0, Nat.zero_le _, rfl, ⟨env, let ⟨h, hr⟩ := hrow0; ⟨h, hr, fun c hc => absurd hc (Nat.not_lt_zero _)⟩, inv0, Below.refl _ _⟩⟩
  case round =>
    obtain ⟨k, hk, rfl, hini⟩ := hrel
    clear hlf
    have hlf := hini.env.lf
    by_cases hlt : k < n
    · have HS : Hid (Ini B D fsv n I w (k + 1) (wr.setCell ⟨B + 1, k, none⟩ (.int .i32 (-1)))) := hini.step STAB.out
      obtain ⟨h, hr, _⟩ := hini.row
      have rm := hr.cell hlt
      have rf := hr.frozen k
      go_wp2
      go_roundw
      case rel => exact ⟨k + 1, by omega, by go_num, HS.out⟩
      case measure => simp [intOf]; omega
    · obtain rfl : n = k := by omega
      have hest := hini.done
      have hfs := hini.env.fs
      obtain ⟨fa, fb, fo, fcap, efs, hfl⟩ := env.flows
      subst efs
      have HFL : Hid (∀ i, i < D.N → fa = some ⟨fb, fo, none⟩ ∧ fb < B ∧ ∃ v', w.cell? ⟨fb, fo + i * 4 + 2, none⟩ = some v' ∧ PathsOk B w v' (D.PN i) (D.QN i) (D.C i)) := hfl
      clear hini hfl hlt hlf env hrow0 inv0
      go_wp2
      go_loopw [21] (fun x wr => ∃ k : Nat, k ≤ D.N ∧ x = .int .i64 k ∧ Est B D (.slice fa D.N fcap) n I w k 0 0 wr) (fun x _ => D.N - (intOf x).toNat)
      case atStart => exact ⟨0, Nat.zero_le _, rfl, hest⟩
      case round =>
        clear hest hfs
        obtain ⟨k, hk, rfl, hest⟩ := hrel
        by_cases hlt : k < D.N
        · have hpn := ok.pn k hlt
          have hdk : Hid (DomF D n k) := hdom k hlt
          obtain ⟨ea, hbB, pv, hpv, hps⟩ := HFL.out k hlt
          have hpv1 : wr.cell? ⟨fb, fo + k * 4 + 2, none⟩ = some pv := by rw [hest.below.cell hbB]; exact hpv
          obtain ⟨pa, pb, po, pcap, epv, hpj⟩ := hps
          subst epv
          have HPJ : Hid (∀ j, j < D.PN k → pa = some ⟨pb, po, none⟩ ∧ pb < B ∧ ∃ v', w.cell? ⟨pb, po + j, none⟩ = some v' ∧ PathOk B w v' (D.QN k j) (D.C k j)) := hpj
          clear hpj hpv
          subst ea
          have hfs := hest.env.fs
          go_wp2
          go_loopw [30] (fun x wr => ∃ m : Nat, m ≤ D.PN k ∧ x = .int .i64 m ∧ Est B D (.slice (some ⟨fb, fo, none⟩) D.N fcap) n I w k m 0 wr) (fun x _ => D.PN k - (intOf x).toNat)
          case atStart => exact ⟨0, Nat.zero_le _, rfl, hest⟩
          case round =>
            clear hest hfs hpv1
            obtain ⟨m, hm, rfl, hest⟩ := hrel
            by_cases hltm : m < D.PN k
            · have hqn := ok.qn k m hlt hltm
              obtain ⟨epa, hpbB, qv, hqv, hq⟩ := HPJ.out m hltm
              have hqv1 : wr.cell? ⟨pb, po + m, none⟩ = some qv := by rw [hest.below.cell hpbB]; exact hqv
              obtain ⟨qa, qb, qo, qcap, eqv, hcq⟩ := hq
              subst eqv
              have HCQ : Hid (∀ q, q < D.QN k m → qa = some ⟨qb, qo, none⟩ ∧ qb < B ∧ w.cell? ⟨qb, qo + q, none⟩ = some (.int .i32 (D.C k m q))) := hcq
              clear hcq hqv
              subst epa
              go_wp2
              go_loopw [36] (fun x wr => ∃ q : Nat, q ≤ D.QN k m ∧ x = .int .i64 q ∧ Est B D (.slice (some ⟨fb, fo, none⟩) D.N fcap) n I w k m q wr) (fun x _ => D.QN k m - (intOf x).toNat)
              case atStart => exact ⟨0, Nat.zero_le _, rfl, hest⟩
              case round =>
                clear hest hqv1
                obtain ⟨q, hq, rfl, hest⟩ := hrel
                by_cases hltq : q < D.QN k m
                · obtain ⟨eqa, hqbB, hcell⟩ := HCQ.out q hltq
                  obtain ⟨d0, d1⟩ := hdk.out m hltm q hltq
                  have hyes : Hid (hasF D k (D.C k m q) = true) := hasF_of hltm hltq
                  obtain ⟨c, hc⟩ := Int.eq_ofNat_of_zero_le d0
                  rw [hc] at d1 hcell hyes
                  have HC : Hid (D.C k m q = (c : Int)) := hc
                  clear d0 hc
                  have hcn : c < n := by omega
                  have hcell1 : wr.cell? ⟨qb, qo + q, none⟩ = some (.int .i32 (c : Int)) := by rw [hest.below.cell hqbB]; exact hcell
                  clear hcell
                  subst eqa
                  have hlf := hest.env.lf
                  obtain ⟨lf, hr, hg⟩ := hest.row
                  have hgc := hg c hcn
                  have rm := hr.cell hcn
                  have rf := hr.frozen c
                  cases hs : seen D k m q (c : Int) with
                  | true =>
                    rw [hgc.2.2 hs] at rm
                    clear hg hgc hr
                    go_wp2
                    go_roundw
                    case rel => exact ⟨q + 1, by omega, by go_num, hest.old HC.out hs⟩
                    case measure => simp [intOf]; omega
                  | false =>
                    have hne : (lf c != (k : Int)) = true := by
                      rw [bne_iff_ne]
                      intro e
                      rw [hgc.2.1 e] at hs
                      cases hs
                    have HS : Hid (seen D k m q (c : Int) = false) := hs
                    clear hg hgc hr hs
                    go_wp2_with fail
                    refine (HV.out (fun x => vis D k m q (x : Int)) c k _ (STAB.out _ _ _ _ hest.inv) hcn hlt (vis_unseen HS.out) hyes.out).mono ?_
                    rintro e w2 ⟨rfl, hI2, hb2⟩
                    have hest2 := hest.new hcn HC.out HS.out hI2 hb2
                    clear hI2 hb2 rm rf hlf hcell1
                    go_wp2
                    go_roundw
                    case rel => exact ⟨q + 1, by omega, by go_num, hest2⟩
                    case measure => simp [intOf]; omega
                · obtain rfl : q = D.QN k m := by omega
                  go_wp2
                  go_roundw
                  case rel => exact ⟨m + 1, by omega, by go_num, hest.path⟩
                  case measure => simp [intOf]; omega
            · obtain rfl : m = D.PN k := by omega
              go_wp2
              go_roundw
              case rel => exact ⟨k + 1, by omega, by go_num, hest.flow⟩
              case measure => simp [intOf]; omega
        · obtain rfl : k = D.N := by omega
          go_wp2
          go_end0
          exact ⟨rfl, hest⟩

set_option maxHeartbeats 1000000 in
theorem each18 (B : Nat) (D : Inp) (fsv : Value) (n : Nat) (I : (Nat → Nat) → World → Prop) (X Y : Nat) (w : World)
    (hn : n ≤ 65536) (hN : D.N ≤ 1048576) (ok : D.Ok) (hdom : DomTo D n D.N)
    (env : Env B D fsv n w) (hrow0 : ∃ h, w.rowIs (B + 1) 21 n h) (inv0 : I (fun _ => 0) w)
    (stab : ∀ V w i v, I V w → I V (w.setCell ⟨B + 1, i, none⟩ v))
    (hv : ∀ (V : Nat → Nat) (c f : Nat) (w : World), I V w → c < n → f < D.N → V c = cnt D (c : Int) f → hasF D f (c : Int) = true →
      Calls Try.prog 18 #[.int .i32 (f : Int), .int .i32 (c : Int), .pointer (some ⟨X, 0, none⟩), .pointer (some ⟨Y, 0, none⟩)] w fun e w' => e = .returned (.tuple #[]) ∧ I (fun x => V x + if x = c then 1 else 0) w' ∧ Below (B + 3) w w') :
    Calls Try.prog 16 #[.func (.func 18) #[] #[.pointer (some ⟨X, 0, none⟩), .pointer (some ⟨Y, 0, none⟩)], .pointer (some ⟨B + 2, 0, none⟩), .pointer (some ⟨B, 0, none⟩)] w fun e w' => e = .returned (.tuple #[]) ∧ Est B D fsv n I w D.N 0 0 w' := by
  have STAB : Hid (∀ V w i v, I V w → I V (w.setCell ⟨B + 1, i, none⟩ v)) := stab
  have HV : Hid (∀ (V : Nat → Nat) (c f : Nat) (w : World), I V w → c < n → f < D.N → V c = cnt D (c : Int) f → hasF D f (c : Int) = true →
      Calls Try.prog 18 #[.int .i32 (f : Int), .int .i32 (c : Int), .pointer (some ⟨X, 0, none⟩), .pointer (some ⟨Y, 0, none⟩)] w fun e w' => e = .returned (.tuple #[]) ∧ I (fun x => V x + if x = c then 1 else 0) w' ∧ Below (B + 3) w w') := hv
  clear stab hv
  have hlf := env.lf
  go_enter Try.func16, Try.ntmps16
  go_wp2
  go_loopw [12] (fun x wr => ∃ k : Nat, k ≤ n ∧ x = .int .i64 k ∧ Ini B D fsv n I w k wr) (fun x _ => n - (intOf x).toNat)
  case atStart => exact ⟨0, Nat.zero_le _, rfl, ⟨env, let ⟨h, hr⟩ := hrow0; ⟨h, hr, fun c hc => absurd hc (Nat.not_lt_zero _)⟩, inv0, Below.refl _ _⟩⟩
  case round =>
    obtain ⟨k, hk, rfl, hini⟩ := hrel
    clear hlf
    have hlf := hini.env.lf
    by_cases hlt : k < n
    · have HS : Hid (Ini B D fsv n I w (k + 1) (wr.setCell ⟨B + 1, k, none⟩ (.int .i32 (-1)))) := hini.step STAB.out
      obtain ⟨h, hr, _⟩ := hini.row
      have rm := hr.cell hlt
      have rf := hr.frozen k
      go_wp2
      go_roundw
      case rel => exact ⟨k + 1, by omega, by go_num, HS.out⟩
      case measure => simp [intOf]; omega
    · obtain rfl : n = k := by omega
      have hest := hini.done
      have hfs := hini.env.fs
      obtain ⟨fa, fb, fo, fcap, efs, hfl⟩ := env.flows
      subst efs
      have HFL : Hid (∀ i, i < D.N → fa = some ⟨fb, fo, none⟩ ∧ fb < B ∧ ∃ v', w.cell? ⟨fb, fo + i * 4 + 2, none⟩ = some v' ∧ PathsOk B w v' (D.PN i) (D.QN i) (D.C i)) := hfl
      clear hini hfl hlt hlf env hrow0 inv0
      go_wp2
      go_loopw [21] (fun x wr => ∃ k : Nat, k ≤ D.N ∧ x = .int .i64 k ∧ Est B D (.slice fa D.N fcap) n I w k 0 0 wr) (fun x _ => D.N - (intOf x).toNat)
      case atStart => exact ⟨0, Nat.zero_le _, rfl, hest⟩
      case round =>
        clear hest hfs
        obtain ⟨k, hk, rfl, hest⟩ := hrel
        by_cases hlt : k < D.N
        · have hpn := ok.pn k hlt
          have hdk : Hid (DomF D n k) := hdom k hlt
          obtain ⟨ea, hbB, pv, hpv, hps⟩ := HFL.out k hlt
          have hpv1 : wr.cell? ⟨fb, fo + k * 4 + 2, none⟩ = some pv := by rw [hest.below.cell hbB]; exact hpv
          obtain ⟨pa, pb, po, pcap, epv, hpj⟩ := hps
          subst epv
          have HPJ : Hid (∀ j, j < D.PN k → pa = some ⟨pb, po, none⟩ ∧ pb < B ∧ ∃ v', w.cell? ⟨pb, po + j, none⟩ = some v' ∧ PathOk B w v' (D.QN k j) (D.C k j)) := hpj
          clear hpj hpv
          subst ea
          have hfs := hest.env.fs
          go_wp2
          go_loopw [30] (fun x wr => ∃ m : Nat, m ≤ D.PN k ∧ x = .int .i64 m ∧ Est B D (.slice (some ⟨fb, fo, none⟩) D.N fcap) n I w k m 0 wr) (fun x _ => D.PN k - (intOf x).toNat)
          case atStart => exact ⟨0, Nat.zero_le _, rfl, hest⟩
          case round =>
            clear hest hfs hpv1
            obtain ⟨m, hm, rfl, hest⟩ := hrel
            by_cases hltm : m < D.PN k
            · have hqn := ok.qn k m hlt hltm
              obtain ⟨epa, hpbB, qv, hqv, hq⟩ := HPJ.out m hltm
              have hqv1 : wr.cell? ⟨pb, po + m, none⟩ = some qv := by rw [hest.below.cell hpbB]; exact hqv
              obtain ⟨qa, qb, qo, qcap, eqv, hcq⟩ := hq
              subst eqv
              have HCQ : Hid (∀ q, q < D.QN k m → qa = some ⟨qb, qo, none⟩ ∧ qb < B ∧ w.cell? ⟨qb, qo + q, none⟩ = some (.int .i32 (D.C k m q))) := hcq
              clear hcq hqv
              subst epa
              go_wp2
              go_loopw [36] (fun x wr => ∃ q : Nat, q ≤ D.QN k m ∧ x = .int .i64 q ∧ Est B D (.slice (some ⟨fb, fo, none⟩) D.N fcap) n I w k m q wr) (fun x _ => D.QN k m - (intOf x).toNat)
              case atStart => exact ⟨0, Nat.zero_le _, rfl, hest⟩
              case round =>
                clear hest hqv1
                obtain ⟨q, hq, rfl, hest⟩ := hrel
                by_cases hltq : q < D.QN k m
                · obtain ⟨eqa, hqbB, hcell⟩ := HCQ.out q hltq
                  obtain ⟨d0, d1⟩ := hdk.out m hltm q hltq
                  have hyes : Hid (hasF D k (D.C k m q) = true) := hasF_of hltm hltq
                  obtain ⟨c, hc⟩ := Int.eq_ofNat_of_zero_le d0
                  rw [hc] at d1 hcell hyes
                  have HC : Hid (D.C k m q = (c : Int)) := hc
                  clear d0 hc
                  have hcn : c < n := by omega
                  have hcell1 : wr.cell? ⟨qb, qo + q, none⟩ = some (.int .i32 (c : Int)) := by rw [hest.below.cell hqbB]; exact hcell
                  clear hcell
                  subst eqa
                  have hlf := hest.env.lf
                  obtain ⟨lf, hr, hg⟩ := hest.row
                  have hgc := hg c hcn
                  have rm := hr.cell hcn
                  have rf := hr.frozen c
                  cases hs : seen D k m q (c : Int) with
                  | true =>
                    rw [hgc.2.2 hs] at rm
                    clear hg hgc hr
                    go_wp2
                    go_roundw
                    case rel => exact ⟨q + 1, by omega, by go_num, hest.old HC.out hs⟩
                    case measure => simp [intOf]; omega
                  | false =>
                    have hne : (lf c != (k : Int)) = true := by
                      rw [bne_iff_ne]
                      intro e
                      rw [hgc.2.1 e] at hs
                      cases hs
                    have HS : Hid (seen D k m q (c : Int) = false) := hs
                    clear hg hgc hr hs
                    go_wp2_with fail
                    refine (HV.out (fun x => vis D k m q (x : Int)) c k _ (STAB.out _ _ _ _ hest.inv) hcn hlt (vis_unseen HS.out) hyes.out).mono ?_
                    rintro e w2 ⟨rfl, hI2, hb2⟩
                    have hest2 := hest.new hcn HC.out HS.out hI2 hb2
                    clear hI2 hb2 rm rf hlf hcell1
                    go_wp2
                    go_roundw
                    case rel => exact ⟨q + 1, by omega, by go_num, hest2⟩
                    case measure => simp [intOf]; omega
                · obtain rfl : q = D.QN k m := by omega
                  go_wp2
                  go_roundw
                  case rel => exact ⟨m + 1, by omega, by go_num, hest.path⟩
                  case measure => simp [intOf]; omega
            · obtain rfl : m = D.PN k := by omega
              go_wp2
              go_roundw
              case rel => exact ⟨k + 1, by omega, by go_num, hest.flow⟩
              case measure => simp [intOf]; omega
        · obtain rfl : k = D.N := by omega
          go_wp2
          go_end0
          exact ⟨rfl, hest⟩

end Go.Proofs.Qxb6630895a
