import Derived.Test.Qxb6630895aHas
import Derived.Test.Qxb6630895aCutMath
import Derived.Test.Qxb6630895aDom
import Derived.Deep.RegionWith
import Derived.Deep.DeepCutAuto
namespace Go.Proofs.Qxb6630895a
open Go.RowKit

theorem seen_yes {D : Inp} {f j q jj qq : Nat} {c : Int} (h : jj < j ∧ qq < D.QN f jj ∨ jj = j ∧ qq < q) (e : D.C f jj qq = c) : seen D f j q c = true := by
  simp only [seen, Bool.or_eq_true, List.any_eq_true, List.mem_range, hasP]
  rcases h with ⟨h1, h2⟩ | ⟨rfl, h2⟩
  · exact Or.inl ⟨jj, h1, qq, h2, by simp [e]⟩
  · exact Or.inr ⟨qq, h2, by simp [e]⟩
theorem seen_no {D : Inp} {f j q : Nat} {c : Int} (h1 : NoneF D f c j) (h2 : NoneP D f j c q) : seen D f j q c = false := by
  cases e : seen D f j q c with
  | false => rfl
  | true =>
    simp only [seen, Bool.or_eq_true, List.any_eq_true, List.mem_range, hasP] at e
    rcases e with ⟨jj, hj, qq, hq, e⟩ | ⟨qq, hq, e⟩
    · exact absurd (by simpa using e) (h1 jj hj qq hq)
    · exact absurd (by simpa using e) (h2 qq hq)

def SeenPost (D : Inp) (f j q : Nat) (c : Int) (w : World) (e : Ending) (w' : World) : Prop :=
  e = .returned (.bool (seen D f j q c)) ∧ Below w.heap.size w w'

set_option maxHeartbeats 1000000 in
theorem seen_calls (D : Inp) (s : Spots) (i : Nat) (hi : i < D.N) (j q : Nat) (hj : j < D.PN i) (hq : q ≤ D.QN i j) (c : Int) (w : World) (ok : D.Ok) (hd : Deepr w D s) :
    Calls Try.prog 19 #[.agg #[.int .i64 (s.S i), .int .i64 (s.Bd i), .slice (s.PA i) (D.PN i) (s.PC i), .bool (s.Li i)], .int .i64 (j : Int), .int .i64 (q : Int), .int .i32 c] w (SeenPost D i j q c w) := by
  have hpn := ok.pn i hi
  have hqn0 := ok.qn i j hi hj
  go_enter Try.func19, Try.ntmps19
  go_wp2
  go_loopw [9] (fun x wr => ∃ k : Nat, k ≤ j + 1 ∧ x = .int .i64 k ∧ Boxed w wr D s i ∧ (k ≤ j → NoneF D i c k) ∧ (j < k → seen D i j q c = false)) (fun x _ => j + 1 - (intOf x).toNat)
  case atStart => exact ⟨0, Nat.zero_le _, rfl, ⟨by simp, (Below.refl _ _).alloc (Nat.le_refl _) _⟩, fun _ i hi => absurd hi (Nat.not_lt_zero _), fun h => absurd h (Nat.not_lt_zero _)⟩
  case round =>
    obtain ⟨k, hk, rfl, hbox, hnone, hdone⟩ := hrel
    have HN : Hid (k ≤ j → NoneF D i c k) := hnone
    have HD : Hid (j < k → seen D i j q c = false) := hdone
    clear hnone hdone
    have hp := hbox.paths
    by_cases hlt : k ≤ j
    · have hkp : k < D.PN i := by omega
      have epa := hd.paddr i k hi hkp
      have hpp := (hd.below hbox.below).path i k hi hkp
      have hqn := ok.qn i k hi hkp
      rw [epa] at hp
      by_cases hkj : k = j
      · subst hkj
        go_wp2
        go_loop [12] (fun x => ∃ m : Nat, m ≤ q ∧ x = .int .i64 m ∧ NoneP D i k c m) (fun x => q - (intOf x).toNat)
        case atStart => exact ⟨0, Nat.zero_le _, rfl, fun i hi => absurd hi (Nat.not_lt_zero _)⟩
        case round =>
          obtain ⟨m, hm, rfl, hnonep⟩ := hrel
          by_cases hltm : m < q
          · have hmq : m < D.QN i k := by omega
            have eqa := hd.qaddr i k m hi hkp hmq
            have hqq := (hd.below hbox.below).comp i k m hi hkp hmq
            rw [eqa]
            by_cases hc : D.C i k m = c
            · have hcb : (D.C i k m == c) = true := beq_iff_eq.2 hc
              have hyes : Hid (seen D i k q c = true) := seen_yes (Or.inr ⟨rfl, hltm⟩) hc
              clear hc
              go_wp2
              go_ret
              exact ⟨by rw [hyes.out]; rfl, hbox.below⟩
            · have hcb : (D.C i k m == c) = false := beq_eq_false_iff_ne.2 hc
              go_wp2
              go_round
              case rel => exact ⟨m + 1, by omega, by go_num, fun x hx => by
                    rcases Nat.lt_succ_iff_lt_or_eq.1 hx with h | rfl
                    · exact hnonep x h
                    · exact hc⟩
              case measure => simp [intOf]; omega
          · have hno : Hid (seen D i k q c = false) := seen_no (HN.out (Nat.le_refl _)) (fun x hx => hnonep x (by omega))
            go_wp2
            go_roundw
            case rel => exact ⟨k + 1, by omega, by go_num, hbox, fun h => by omega, fun _ => hno.out⟩
            case measure => simp [intOf]
      · have hb : ((k : Int) == (j : Int)) = false := beq_eq_false_iff_ne.2 (by omega)
        go_wp2
        go_loop [12] (fun x => ∃ m : Nat, m ≤ D.QN i k ∧ x = .int .i64 m ∧ NoneP D i k c m) (fun x => D.QN i k - (intOf x).toNat)
        case atStart => exact ⟨0, Nat.zero_le _, rfl, fun i hi => absurd hi (Nat.not_lt_zero _)⟩
        case round =>
          obtain ⟨m, hm, rfl, hnonep⟩ := hrel
          by_cases hmq : m < D.QN i k
          · have eqa := hd.qaddr i k m hi hkp hmq
            have hqq := (hd.below hbox.below).comp i k m hi hkp hmq
            rw [eqa]
            by_cases hc : D.C i k m = c
            · have hcb : (D.C i k m == c) = true := beq_iff_eq.2 hc
              have hyes : Hid (seen D i j q c = true) := seen_yes (Or.inl ⟨by omega, hmq⟩) hc
              clear hc
              go_wp2
              go_ret
              exact ⟨by rw [hyes.out]; rfl, hbox.below⟩
            · have hcb : (D.C i k m == c) = false := beq_eq_false_iff_ne.2 hc
              go_wp2
              go_round
              case rel => exact ⟨m + 1, by omega, by go_num, fun x hx => by
                    rcases Nat.lt_succ_iff_lt_or_eq.1 hx with h | rfl
                    · exact hnonep x h
                    · exact hc⟩
              case measure => simp [intOf]; omega
          · go_wp2
            go_roundw
            case rel => exact ⟨k + 1, by omega, by go_num, hbox, fun _ x hx => by
                    rcases Nat.lt_succ_iff_lt_or_eq.1 hx with h | rfl
                    · exact HN.out hlt x h
                    · exact fun y hy => hnonep y (by omega), fun h => by omega⟩
            case measure => simp [intOf]; omega
    · go_wp2
      go_ret
      exact ⟨by rw [HD.out (by omega)]; rfl, hbox.below⟩
end Go.Proofs.Qxb6630895a
