import Derived.Test.Qxb6627355aSize
namespace Go.Proofs.Qxb6627355a
open Go.RowKit

theorem asc_of_adj {E : Nat → List Int} {m : Nat} (h : ∀ u, u + 1 < m → cmp (E u) (E (u + 1)) < 0) : Asc E m := by
  intro i j hij hj
  induction j with
  | zero => omega
  | succ j ih =>
    rcases Nat.lt_or_ge i j with hl | hl
    · exact cmp_trans (ih hl (by omega)) (h j hj)
    · have : i = j := by omega
      subst this
      exact h i hj

/-- The set that sizes and rows make. -/
def setOf (n : Nat) (Z : Nat → Int) (L : Nat → Nat) (X : Nat → Nat → Int) : St := ⟨n, fun g => (Z g).toNat, fun g => L g / (Z g).toNat, X⟩

/-- Of the first t elements of the row each lies below the next. -/
def AdjTo (s : Nat) (X : Nat → Int) (t : Nat) : Prop := ∀ u, u + 1 < t → cmp (elem s X u) (elem s X (u + 1)) < 0
structure GoodG (Z : Nat → Int) (L : Nat → Nat) (X : Nat → Nat → Int) (g : Nat) : Prop where
  lo : 1 ≤ Z g
  hi : Z g ≤ 32
  pos : 1 ≤ L g / (Z g).toNat
  len : L g = L g / (Z g).toNat * (Z g).toNat
  adj : AdjTo (Z g).toNat (X g) (L g / (Z g).toNat)
  up : 0 < g → Z (g - 1) < Z g
def GoodTo (Z : Nat → Int) (L : Nat → Nat) (X : Nat → Nat → Int) (k : Nat) : Prop := ∀ g, g < k → GoodG Z L X g

theorem valid_of {n : Nat} {Z : Nat → Int} {L : Nat → Nat} {X : Nat → Nat → Int} (h : GoodTo Z L X n) : Valid (setOf n Z L X) := by
  refine ⟨fun g hg => ?_, fun g hg => ?_, fun g hg => (h g hg).pos, fun g k hgk hk => ?_, fun g hg => asc_of_adj (h g hg).adj⟩
  · have := (h g hg).lo; show 1 ≤ (Z g).toNat; omega
  · have := (h g hg).hi; show (Z g).toNat ≤ 32; omega
  · show (Z g).toNat < (Z k).toNat
    have hk' : k < n := hk
    clear hk
    induction k with
    | zero => omega
    | succ k ih =>
      have h1 := (h (k + 1) hk').up (by omega)
      have h2 := (h (k + 1) hk').lo
      simp only [Nat.add_sub_cancel] at h1
      rcases Nat.lt_or_ge g k with hl | hl
      · have := ih hl (by omega); omega
      · have : g = k := by omega
        subst this
        have := (h g (by omega)).lo
        omega

def ValidPost (n1 n2 : Nat) (Z : Nat → Int) (L : Nat → Nat) (X : Nat → Nat → Int) (w : World) (e : Ending) (w' : World) : Prop :=
  (e = .returned (.bool true) ∧ n1 = n2 ∧ GoodTo Z L X n1 ∨ e = .returned (.bool false)) ∧ Drawn w w'

set_option maxHeartbeats 2000000 in
theorem valid_calls {w : World} {a1 a2 : Option Addr} {n1 n2 c1 c2 : Nat} {Z : Nat → Int} {L : Nat → Nat} {X : Nat → Nat → Int} (h1 : Ints w a1 n1 Z) (h2 : Rws w a2 n2 L X)
    (b1 : n1 ≤ 1048576) (b2 : n2 ≤ 1048576) (hL : ∀ g, g < n2 → L g ≤ 1048576) :
    Calls Try.prog 7 #[.slice a1 n1 c1, .slice a2 n2 c2] w (ValidPost n1 n2 Z L X w) := by
  obtain ⟨zb, zo, hz⟩ := h1
  obtain ⟨rb, ro, hr⟩ := h2
  by_cases hn : n1 = n2
  rotate_left
  · have hne : ((n1 : Int) != (n2 : Int)) = true := by rw [bne_iff_ne]; omega
    go_enter Try.func7, Try.ntmps7
    go_wp2
    go_ret
    exact ⟨Or.inr rfl, Drawn.refl _⟩
  subst hn
  go_enter Try.func7, Try.ntmps7
  go_wp2
  go_loopw [5] (fun x wr => ∃ k : Nat, k ≤ n1 ∧ x = .int .i64 k ∧ GoodTo Z L X k ∧ Drawn w wr) (fun x _ => n1 - (intOf x).toNat)
  case atStart => exact ⟨0, Nat.zero_le _, rfl, fun _ h => absurd h (Nat.not_lt_zero _), Drawn.refl _⟩
  case round =>
    obtain ⟨k, hk, rfl, hgood, hdr⟩ := hrel
    by_cases hlt : k < n1
    · obtain ⟨rfl, k1⟩ := hz k hlt
      obtain ⟨rfl, A, C, k2, k3, k4, k5⟩ := hr k hlt
      replace k1 := cell_keep' k1 hdr.below
      replace k2 := cell_keep' k2 hdr.below
      have hl := hL k hlt
      by_cases hz1 : Z k < 1
      · go_wp2
        go_ret
        exact ⟨Or.inr rfl, hdr⟩
      by_cases hz2 : 32 < Z k
      · go_wp2
        go_ret
        exact ⟨Or.inr rfl, hdr⟩
      have hprev : 0 < k → wr.cell? ⟨zb, zo + (k - 1), none⟩ = some (.int .i64 (Z (k - 1))) := fun h0 => cell_keep' (hz (k - 1) (by omega)).2 hdr.below
      by_cases hup : 0 < k ∧ Z k ≤ Z (k - 1)
      · obtain ⟨hk0, hle⟩ := hup
        have hp := hprev hk0
        obtain ⟨k', rfl⟩ : ∃ k', k = k' + 1 := ⟨k - 1, by omega⟩
        simp only [Nat.add_sub_cancel] at hp hle
        clear hprev
        go_wp2
        go_ret
        exact ⟨Or.inr rfl, hdr⟩
      have hup' : 0 < k → Z (k - 1) < Z k := fun h0 => by
        by_cases h : Z k ≤ Z (k - 1)
        · exact absurd ⟨h0, h⟩ hup
        · omega
      have HUP : Hid (0 < k → Z (k - 1) < Z k) := hup'
      clear hup hup'
      obtain ⟨s, hs⟩ := Int.eq_ofNat_of_zero_le (show 0 ≤ Z k by omega)
      have HPREV : Hid (0 < k → wr.cell? ⟨zb, zo + (k - 1), none⟩ = some (.int .i64 (Z (k - 1)))) := hprev
      have HS : Hid (Z k = (s : Int)) := hs
      rw [hs] at k1 hz1 hz2
      clear hs hprev
      obtain ⟨kp, hkp⟩ : ∃ kp, kp = k - 1 := ⟨_, rfl⟩
      rw [← hkp] at HPREV HUP
      have HKP : Hid (kp = k - 1) := hkp
      have HM : Hid (∀ t, t * s ≤ 1048576 → True) := fun _ _ => trivial
      have hcase : (0 < k ∧ (k : Int) - 1 = (kp : Int) ∧ wr.cell? ⟨zb, zo + kp, none⟩ = some (.int .i64 (Z kp)) ∧ Z kp < (s : Int)) ∨ ¬ 0 < k := by
        by_cases h : 0 < k
        · exact Or.inl ⟨h, by omega, HPREV.out h, by have := HUP.out h; rw [HS.out] at this; exact this⟩
        · exact Or.inr h
      clear hkp HM
      rcases hcase with ⟨hk0, hkm, hp, hzlt⟩ | hk0
      all_goals
        by_cases hz3 : L k = 0
        · go_wp2
          go_ret
          exact ⟨Or.inr rfl, hdr⟩
        by_cases hz4 : (L k : Int) % (s : Int) = 0
        rotate_left
        · have hb4 : ((L k : Int) % (s : Int) != 0) = true := by rw [bne_iff_ne]; exact hz4
          go_wp2
          go_ret
          exact ⟨Or.inr rfl, hdr⟩
        obtain ⟨m, hm⟩ : ∃ m, m = L k / s := ⟨_, rfl⟩
        have hs1 : 1 ≤ s := by omega
        have hLm : L k = m * s := by
          rw [hm]
          have h5 : L k % s = 0 := by omega
          exact (Nat.div_mul_cancel (Nat.dvd_of_mod_eq_zero h5)).symm
        have hm1 : 1 ≤ m := by
          rcases Nat.eq_zero_or_pos m with h | h
          · rw [h, Nat.zero_mul] at hLm; exact absurd hLm hz3
          · exact h
        have HLM : Hid (L k = m * s) := hLm
        have HMM : Hid (m = L k / s) := hm
        have HT : Hid (∀ t, t < m → t * s + s ≤ L k) := fun t ht => by
          have := Nat.mul_le_mul_right s (show t + 1 ≤ m by omega)
          rw [Nat.succ_mul] at this
          rw [HLM.out]; exact this
        have hb3 : ((L k : Int) == 0) = false := beq_eq_false_iff_ne.2 (by omega)
        have hb4 : ((L k : Int) % (s : Int) != 0) = false := by rw [bne_eq_false_iff_eq]; exact hz4
        have hs0 : (0 : Int) < (s : Int) := by omega
        clear hLm hm hz4
        go_wp2
        go_loopw [8] (fun x wi => ∃ t : Nat, 1 ≤ t ∧ t ≤ m ∧ x = .int .i64 ((t * s : Nat) : Int) ∧ AdjTo s (X k) t ∧ Drawn w wi) (fun x _ => L k - (intOf x).toNat)
        case atStart => exact ⟨1, Nat.le_refl _, hm1, by rw [Nat.one_mul], fun u hu => by omega, hdr⟩
        case round =>
          clear k1 k2 hdr
          obtain ⟨t, ht1, ht2, rfl, hadj, hdr⟩ := hrel
          by_cases htm : t < m
          · have hqM := HT.out t htm
            obtain ⟨p, hp'⟩ : ∃ p, p = (t - 1) * s := ⟨_, rfl⟩
            have hqp : t * s = p + s := by
              obtain ⟨t', rfl⟩ : ∃ t', t = t' + 1 := ⟨t - 1, by omega⟩
              rw [hp', Nat.add_sub_cancel, Nat.succ_mul]
            have HPP : Hid (p = (t - 1) * s) := hp'
            generalize hq : t * s = q at *
            have HQ : Hid (t * s = q) := hq
            obtain ⟨ab, ao, k6⟩ := k5
            obtain ⟨ea, _⟩ := k6 q (by omega)
            subst ea
            have hp1 : Bts wr (some ⟨ab, ao + p, none⟩) s (fun i => X k (p + i)) := Bts.piece (n := L k) (fun i hi => ⟨cell_keep' (k6 i hi).2.1 hdr.below, (k6 i hi).2.2⟩) (by omega)
            have hp2 : Bts wr (some ⟨ab, ao + q, none⟩) s (fun i => X k (q + i)) := Bts.piece (n := L k) (fun i hi => ⟨cell_keep' (k6 i hi).2.1 hdr.below, (k6 i hi).2.2⟩) (by omega)
            have hcon := fun d => compare_calls (w := wr.drewN d) (ca := C - p) (cb := C - q) (hp1.below (below_draw wr d)) (hp2.below (below_draw wr d)) (by omega) (by omega)
            have HR : Hid (cmp (elem s (X k) (t - 1)) (elem s (X k) t) = cmp (ls s fun i => X k (p + i)) (ls s fun i => X k (q + i))) := by
              unfold elem
              rw [HQ.out, ← HPP.out]
              rfl
            unfold NumPost at hcon
            generalize cmp (ls s fun i => X k (p + i)) (ls s fun i => X k (q + i)) = r at *
            have e1 : (q : Int) - (s : Int) = (p : Int) := by omega
            have e2 : q - p = s := by omega
            have e3 : (q : Int) + (s : Int) ≤ (C : Int) := by omega
            have e4 : ¬ C = q := by omega
            have e5 : ¬ C = p := by omega
            have e6 : (p : Int) ≤ (q : Int) := by omega
            have e7 : (q : Int) ≤ (C : Int) := by omega
            have e8 : (q : Int) < (L k : Int) := by omega
            have e9 : q ≤ 1048576 := by omega
            have ea : p ≤ 1048576 := by omega
            have eb : (0 : Int) ≤ (p : Int) := by omega
            clear hp1 hp2 hq hqp hp' k6 hqM
            by_cases hr0 : r < 0
            · have hr1 : ¬ 0 ≤ r := by omega
              go_wp2
              go_quiet ((go_at_call 17; exact Calls.quiet_of (hcon _)))
              go_wp2
              go_roundw
              case rel => exact ⟨t + 1, by omega, by omega, by rw [Nat.succ_mul, HQ.out]; go_num, fun u hu => by
                    rcases Nat.lt_or_ge (u + 1) t with h | h
                    · exact hadj u h
                    · have e : u = t - 1 := by omega
                      subst e
                      have e' : t - 1 + 1 = t := by omega
                      rw [e', HR.out]; exact hr0, hdr.draw _⟩
              case measure => simp [intOf]; omega
            · have hr1 : 0 ≤ r := by omega
              go_wp2
              go_quiet ((go_at_call 17; exact Calls.quiet_of (hcon _)))
              go_wp2
              go_ret
              exact ⟨Or.inr rfl, hdr.draw _⟩
          · obtain rfl : t = m := by omega
            have e8 : ¬ (((t * s : Nat) : Int) < (L k : Int)) := by rw [HLM.out]; omega
            have hst : (Z k).toNat = s := by rw [HS.out]; rfl
            have GG : GoodG Z L X k := by
              refine ⟨by rw [HS.out]; omega, by rw [HS.out]; omega, by rw [hst, ← HMM.out]; exact ht1, by rw [hst, ← HMM.out]; exact HLM.out, by rw [hst, ← HMM.out]; exact hadj, fun h0 => ?_⟩
              have := HUP.out h0
              rw [HKP.out] at this
              exact this
            clear hst
            generalize t * s = q at *
            go_wp2
            go_roundw
            case rel => exact ⟨k + 1, by omega, by go_num, fun x hx => by
                rcases Nat.lt_succ_iff_lt_or_eq.1 hx with h | rfl
                · exact hgood x h
                · exact GG, hdr⟩
            case measure => simp [intOf]; omega
    · obtain rfl : k = n1 := by omega
      go_wp2
      go_ret
      exact ⟨Or.inl ⟨rfl, rfl, hgood⟩, hdr⟩
end Go.Proofs.Qxb6627355a
