import Derived.Test.Qxb6627355aBelow
namespace Go.Proofs.Qxb6627355a
open Go.RowKit

theorem has_none {S : St} {p : List Int} (h : ∀ g, g < S.G → S.s g ≠ p.length) : hasB S p = false := by
  cases e : hasB S p with
  | false => rfl
  | true =>
    obtain ⟨g, j, hg, _, rfl⟩ := hasB_iff.1 e
    exact absurd (el_length S g j).symm (h g hg)
theorem has_at {S : St} (hv : Valid S) {g : Nat} (hg : g < S.G) {p : List Int} (hl : S.s g = p.length) :
    hasB S p = true ↔ blw (el S g) p (S.m g) < S.m g ∧ cmp (el S g (blw (el S g) p (S.m g))) p = 0 := by
  constructor
  · intro h
    obtain ⟨h', j, hh, hj, e⟩ := hasB_iff.1 h
    have hs : S.s h' = S.s g := by rw [hl, ← e, el_length]
    have e1 : h' = g := by
      rcases Nat.lt_trichotomy h' g with hlt | hlt | hlt
      · have := hv.asc h' g hlt hg; omega
      · exact hlt
      · have := hv.asc g h' hlt hh; omega
    subst e1
    have hk : blw (el S h') p (S.m h') = j := by
      refine blw_eq (hv.ord h' hh) (by omega) (fun i hi => ?_) (fun _ => ?_)
      · rw [← e]; exact hv.ord h' hh i j hi hj
      · rw [e]; exact fun h => cmp_lt_irrefl h
    rw [hk, e]
    exact ⟨hj, cmp_self p⟩
  · rintro ⟨h1, h2⟩
    exact hasB_iff.2 ⟨g, _, hg, h1, cmp_eq h2⟩

def NoSize (S : St) (n k : Nat) : Prop := ∀ g, g < k → S.s g ≠ n

set_option maxHeartbeats 1000000 in
theorem has_calls {w : World} {pa a1 a2 : Option Addr} {np pc c1 c2 : Nat} {P : Nat → Int} {S : St} (hp : Bts w pa np P) (hS : SetIn w a1 a2 S) (hv : Valid S) (hsm : Small S) (hnp : np ≤ 1048576) :
    Calls Try.prog 13 #[.slice pa np pc, .slice a1 S.G c1, .slice a2 S.G c2] w (BoolPost (hasB S (ls np P)) w) := by
  have hG := hsm.1
  obtain ⟨zb, zo, hz⟩ := hS.sizes
  obtain ⟨rb, ro, hr⟩ := hS.rows
  go_enter Try.func13, Try.ntmps13
  go_wp2
  go_loopw [7] (fun x wr => ∃ g : Nat, g ≤ S.G ∧ x = .int .i64 g ∧ NoSize S np g ∧ Drawn w wr) (fun x _ => S.G - (intOf x).toNat)
  case atStart => exact ⟨0, Nat.zero_le _, rfl, fun _ h => absurd h (Nat.not_lt_zero _), Drawn.refl _⟩
  case round =>
    obtain ⟨g, hg, rfl, hno, hdr⟩ := hrel
    by_cases hlt : g < S.G
    · obtain ⟨rfl, k1⟩ := hz g hlt
      obtain ⟨rfl, A, C, k2, k3, k4, k5⟩ := hr g hlt
      replace k1 := cell_keep' k1 hdr.below
      replace k2 := cell_keep' k2 hdr.below
      replace k5 := k5.below hdr.below
      have hlo := hv.lo g hlt
      have hhi := hv.hi g hlt
      have hm := hsm.2 g hlt
      clear hz hr
      by_cases hs : S.s g = np
      · have HA : Hid (hasB S (ls np P) = true ↔ blw (el S g) (ls np P) (S.m g) < S.m g ∧ cmp (el S g (blw (el S g) (ls np P) (S.m g))) (ls np P) = 0) := has_at hv hlt (by rw [hs, ls_length])
        have hcon : Calls Try.prog 26 #[.slice pa np pc, .slice A (S.m g * S.s g) C, .int .i64 (S.s g : Int)] wr (NumPost (blw (el S g) (ls np P) (S.m g) : Int) wr) :=
          below_calls (hp.below hdr.below) rfl k5 hlo k3 hm hnp (hv.ord g hlt)
        have hble := blw_le (el S g) (ls np P) (S.m g)
        have hdiv : ((S.m g * S.s g : Nat) : Int) / (S.s g : Int) = (S.m g : Int) := by
          rw [Int.natCast_mul]; exact Int.mul_ediv_cancel _ (by omega)
        have hmm : S.m g ≤ S.m g * S.s g := Nat.le_mul_of_pos_right _ (by omega)
        have hE : ∀ k, el S g k = ls (S.s g) (fun i => S.X g (k * S.s g + i)) := fun _ => rfl
        have HE : Hid (∀ k, el S g k = ls (S.s g) (fun i => S.X g (k * S.s g + i))) := hE
        have hne : ((S.s g : Int) != (np : Int)) = false := by rw [bne_eq_false_iff_eq]; omega
        have HMM : Hid (∀ k, k < S.m g → k * S.s g + S.s g ≤ S.m g * S.s g) := fun k hk => by
          have := Nat.mul_le_mul_right (S.s g) (show k + 1 ≤ S.m g by omega)
          rw [Nat.succ_mul] at this; exact this
        clear hE hs
        generalize hk : blw (el S g) (ls np P) (S.m g) = k at *
        generalize hM : S.m g * S.s g = M at *
        clear hk hM
        have hs0 : (0 : Int) < (S.s g : Int) := by omega
        by_cases hkm : k < S.m g
        · obtain ⟨q, hq⟩ : ∃ q, q = k * S.s g := ⟨_, rfl⟩
          have hmul : (k : Int) * (S.s g : Int) = (q : Int) := by rw [hq, Int.natCast_mul]
          have hqM : q + S.s g ≤ M := by rw [hq]; exact HMM.out k hkm
          obtain ⟨gb, go, k5⟩ := k5
          obtain ⟨ea, _⟩ := k5 q (by omega)
          subst ea
          have hel : Bts wr (some ⟨gb, go + q, none⟩) (S.s g) (fun i => S.X g (q + i)) := Bts.piece (n := M) (fun i hi => (k5 i hi).2) hqM
          have hcon2 := fun d => compare_calls (w := wr.drewN d) (ca := C - q) (cb := pc) (hel.below (below_draw wr d)) ((hp.below hdr.below).below (below_draw wr d)) (by omega) hnp
          have hR : (cmp (ls (S.s g) fun i => S.X g (q + i)) (ls np P) == 0) = hasB S (ls np P) := by
            rw [Bool.eq_iff_iff, HA.out, HE.out, ← hq]
            simp [hkm]
          have HR : Hid ((cmp (ls (S.s g) fun i => S.X g (q + i)) (ls np P) == 0) = hasB S (ls np P)) := hR
          unfold NumPost at hcon2
          clear hR hq hel k5
          generalize cmp (ls (S.s g) fun i => S.X g (q + i)) (ls np P) = r at *
          have e1 : (q : Int) + (S.s g : Int) ≤ (C : Int) := by omega
          have e2 : ¬ C = q := by omega
          have e3 : q ≤ 1048576 := by omega
          go_wp2_with fail
          refine hcon.mono ?_
          rintro e w2 ⟨rfl, d2, rfl⟩
          go_wp2_with fail
          refine (hcon2 d2).mono ?_
          rintro e w3 ⟨rfl, hd3⟩
          clear hcon hcon2
          go_wp2
          go_ret
          exact ⟨by rw [← HR.out]; rfl, (hdr.draw _).trans hd3⟩
        · have hR : hasB S (ls np P) = false := by
            cases hh : hasB S (ls np P) with
            | false => rfl
            | true => exact absurd (HA.out.1 hh).1 hkm
          have HR : Hid (hasB S (ls np P) = false) := hR
          clear hR
          go_wp2_with fail
          refine hcon.mono ?_
          rintro e w2 ⟨rfl, hd2⟩
          clear hcon
          go_wp2
          go_ret
          exact ⟨by rw [HR.out]; rfl, hdr.trans hd2⟩
      · have hne : ((S.s g : Int) != (np : Int)) = true := by rw [bne_iff_ne]; omega
        go_wp2
        go_roundw
        case rel => exact ⟨g + 1, by omega, by go_num, fun x hx => by
                rcases Nat.lt_succ_iff_lt_or_eq.1 hx with h | rfl
                · exact hno x h
                · exact hs, hdr⟩
        case measure => simp [intOf]; omega
    · have HR : Hid (hasB S (ls np P) = false) := has_none (fun g' hg' => by rw [ls_length]; exact hno g' (by omega))
      go_wp2
      go_ret
      exact ⟨by rw [HR.out]; rfl, hdr⟩

set_option maxHeartbeats 1000000 in
theorem count_calls {w : World} {a1 a2 : Option Addr} {c1 c2 : Nat} {S : St} (hS : SetIn w a1 a2 S) (hv : Valid S) (hsm : Small S) (htot : ∀ g, g ≤ S.G → sumTo S.m g ≤ 1048576) :
    Calls Try.prog 10 #[.slice a1 S.G c1, .slice a2 S.G c2] w (NumPost (tot S : Int) w) := by
  have hG := hsm.1
  obtain ⟨zb, zo, hz⟩ := hS.sizes
  obtain ⟨rb, ro, hr⟩ := hS.rows
  go_enter Try.func10, Try.ntmps10
  go_wp2
  go_loopw [5, 6] (fun y x wr => ∃ g : Nat, g ≤ S.G ∧ x = .int .i64 g ∧ y = .int .i64 (sumTo S.m g : Int) ∧ Drawn w wr) (fun _ x _ => S.G - (intOf x).toNat)
  case atStart => exact ⟨0, Nat.zero_le _, rfl, rfl, Drawn.refl _⟩
  case round =>
    obtain ⟨g, hg, rfl, rfl, hdr⟩ := hrel
    by_cases hlt : g < S.G
    · obtain ⟨rfl, k1⟩ := hz g hlt
      obtain ⟨rfl, A, C, k2, k3, k4, k5⟩ := hr g hlt
      replace k1 := cell_keep' k1 hdr.below
      replace k2 := cell_keep' k2 hdr.below
      have hlo := hv.lo g hlt
      have hhi := hv.hi g hlt
      have hm := hsm.2 g hlt
      have ht1 := htot (g + 1) hlt
      have HS : Hid (sumTo S.m (g + 1) = sumTo S.m g + S.m g) := rfl
      rw [HS.out] at ht1
      have hdiv : ((S.m g * S.s g : Nat) : Int) / (S.s g : Int) = (S.m g : Int) := by
        rw [Int.natCast_mul]; exact Int.mul_ediv_cancel _ (by omega)
      clear hz hr k5 htot
      generalize S.m g * S.s g = M at *
      generalize sumTo S.m g = acc at *
      have hs0 : (0 : Int) < (S.s g : Int) := by omega
      have hgi : (g : Int) < (S.G : Int) := by omega
      go_wp2
      go_quiet (fail)
      go_wp2
      go_roundw
      case rel => exact ⟨g + 1, by omega, by go_num, by rw [HS.out]; go_num, hdr.draw _⟩
      case measure => simp [intOf]; omega
    · obtain rfl : g = S.G := by omega
      go_wp2
      go_ret
      exact ⟨rfl, hdr⟩
end Go.Proofs.Qxb6627355a
