import Derived.Test.Qxb6627355aValid
namespace Go.Proofs.Qxb6627355a
open Go.RowKit

set_option maxHeartbeats 2000000 in
/-- zzValid says true of a valid set. -/
theorem valid_good_calls {w : World} {a1 a2 : Option Addr} {c1 c2 : Nat} {S : St} (hS : SetIn w a1 a2 S) (hv : Valid S) (hsm : Small S) :
    Calls Try.prog 7 #[.slice a1 S.G c1, .slice a2 S.G c2] w (BoolPost true w) := by
  obtain ⟨zb, zo, hz⟩ := hS.sizes
  obtain ⟨rb, ro, hr⟩ := hS.rows
  have hG := hsm.1
  go_enter Try.func7, Try.ntmps7
  go_wp2
  go_loopw [5] (fun x wr => ∃ k : Nat, k ≤ S.G ∧ x = .int .i64 k ∧ Drawn w wr) (fun x _ => S.G - (intOf x).toNat)
  case atStart => exact ⟨0, Nat.zero_le _, rfl, Drawn.refl _⟩
  case round =>
    obtain ⟨k, hk, rfl, hdr⟩ := hrel
    by_cases hlt : k < S.G
    · obtain ⟨rfl, k1⟩ := hz k hlt
      obtain ⟨rfl, A, C, k2, k3, k4, k5⟩ := hr k hlt
      replace k1 : wr.cell? ⟨zb, zo + k, none⟩ = some (.int .i64 (S.s k : Int)) := cell_keep' k1 hdr.below
      replace k2 : wr.cell? ⟨rb, ro + k, none⟩ = some (.slice A (S.m k * S.s k) C) := cell_keep' k2 hdr.below
      replace k3 : S.m k * S.s k ≤ C := k3
      replace k5 : Bts w A (S.m k * S.s k) (S.X k) := k5
      have hl := hsm.2 k hlt
      have hs1 := hv.lo k hlt
      have hs32 := hv.hi k hlt
      have hm1 := hv.pos k hlt
      have hpos : 0 < S.m k * S.s k := Nat.mul_pos hm1 hs1
      have hcase : (0 < k ∧ ∃ kp : Nat, (k : Int) - 1 = (kp : Int) ∧ wr.cell? ⟨zb, zo + kp, none⟩ = some (.int .i64 (S.s kp : Int)) ∧ (S.s kp : Int) < (S.s k : Int)) ∨ ¬ 0 < k := by
        by_cases h : 0 < k
        · refine Or.inl ⟨h, k - 1, by omega, cell_keep' (hz (k - 1) (by omega)).2 hdr.below, ?_⟩
          have := hv.asc (k - 1) k (by omega) hlt
          omega
        · exact Or.inr h
      have HAS : Hid (Asc (el S k) (S.m k)) := hv.ord k hlt
      have HT : Hid (∀ t, t < S.m k → t * S.s k + S.s k ≤ S.m k * S.s k) := fun t ht => by
        have := Nat.mul_le_mul_right (S.s k) (show t + 1 ≤ S.m k by omega)
        rw [Nat.succ_mul] at this; exact this
      have hmod : ((S.m k * S.s k : Nat) : Int) % (S.s k : Int) = 0 := by rw [Int.natCast_mul]; exact Int.mul_emod_left _ _
      obtain ⟨M, hM⟩ : ∃ M, M = S.m k * S.s k := ⟨_, rfl⟩
      have HM : Hid (M = S.m k * S.s k) := hM
      rw [← hM] at k2 k3 k5 hl hpos HT hmod
      have hb3 : ((M : Int) == 0) = false := beq_eq_false_iff_ne.2 (by omega)
      have hb4 : ((M : Int) % (S.s k : Int) != 0) = false := by rw [bne_eq_false_iff_eq]; exact hmod
      have hs0 : (0 : Int) < (S.s k : Int) := by omega
      have hz1 : ¬ ((S.s k : Int) < 1) := by omega
      have hz2 : ¬ (32 < (S.s k : Int)) := by omega
      have K5 : Hid (Bts w A M (S.X k)) := k5
      clear hM hz hr k4 hmod k5
      rcases hcase with ⟨hk0, kp, hkm, hp, hzlt⟩ | hk0
      all_goals
        go_wp2
        go_loopw [8] (fun x wi => ∃ t : Nat, 1 ≤ t ∧ t ≤ S.m k ∧ x = .int .i64 ((t * S.s k : Nat) : Int) ∧ Drawn w wi) (fun x _ => M - (intOf x).toNat)
        case atStart => exact ⟨1, Nat.le_refl _, hm1, by rw [Nat.one_mul], hdr⟩
        case round =>
          clear k1 k2 hdr
          obtain ⟨t, ht1, ht2, rfl, hdr⟩ := hrel
          by_cases htm : t < S.m k
          · have hqM := HT.out t htm
            obtain ⟨p, hp'⟩ : ∃ p, p = (t - 1) * S.s k := ⟨_, rfl⟩
            have hqp : t * S.s k = p + S.s k := by
              obtain ⟨t', rfl⟩ : ∃ t', t = t' + 1 := ⟨t - 1, by omega⟩
              rw [hp', Nat.add_sub_cancel, Nat.succ_mul]
            have HPP : Hid (p = (t - 1) * S.s k) := hp'
            generalize hq : t * S.s k = q at *
            have HQ : Hid (t * S.s k = q) := hq
            obtain ⟨ab, ao, k6⟩ := K5.out
            obtain ⟨ea, _⟩ := k6 q (by omega)
            subst ea
            have hp1 : Bts wr (some ⟨ab, ao + p, none⟩) (S.s k) (fun i => S.X k (p + i)) := Bts.piece (n := M) (fun i hi => ⟨cell_keep' (k6 i hi).2.1 hdr.below, (k6 i hi).2.2⟩) (by omega)
            have hp2 : Bts wr (some ⟨ab, ao + q, none⟩) (S.s k) (fun i => S.X k (q + i)) := Bts.piece (n := M) (fun i hi => ⟨cell_keep' (k6 i hi).2.1 hdr.below, (k6 i hi).2.2⟩) (by omega)
            have hcon := fun d => compare_calls (w := wr.drewN d) (ca := C - p) (cb := C - q) (hp1.below (below_draw wr d)) (hp2.below (below_draw wr d)) (by omega) (by omega)
            have hr0 : cmp (ls (S.s k) fun i => S.X k (p + i)) (ls (S.s k) fun i => S.X k (q + i)) < 0 := by
              have := HAS.out (t - 1) t (by omega) htm
              unfold el at this
              rw [HQ.out, ← HPP.out] at this
              exact this
            unfold NumPost at hcon
            generalize cmp (ls (S.s k) fun i => S.X k (p + i)) (ls (S.s k) fun i => S.X k (q + i)) = r at *
            have e1 : (q : Int) - (S.s k : Int) = (p : Int) := by omega
            have e2 : q - p = S.s k := by omega
            have e3 : (q : Int) + (S.s k : Int) ≤ (C : Int) := by omega
            have e4 : ¬ C = q := by omega
            have e5 : ¬ C = p := by omega
            have e6 : (p : Int) ≤ (q : Int) := by omega
            have e7 : (q : Int) ≤ (C : Int) := by omega
            have e8 : (q : Int) < (M : Int) := by omega
            have e9 : q ≤ 1048576 := by omega
            have ea : p ≤ 1048576 := by omega
            have eb : (0 : Int) ≤ (p : Int) := by omega
            clear hp1 hp2 hq hqp hp' k6 hqM
            have hr1 : ¬ 0 ≤ r := by omega
            go_wp2
            go_quiet ((go_at_call 17; exact Calls.quiet_of (hcon _)))
            go_wp2
            go_roundw
            case rel => exact ⟨t + 1, by omega, by omega, by rw [Nat.succ_mul, HQ.out]; go_num, hdr.draw _⟩
            case measure => simp [intOf]; omega
          · obtain rfl : t = S.m k := by omega
            rw [← HM.out]
            have e8 : ¬ ((M : Int) < (M : Int)) := by omega
            go_wp2
            go_roundw
            case rel => exact ⟨k + 1, by omega, by go_num, hdr⟩
            case measure => simp [intOf]; omega
    · obtain rfl : k = S.G := by omega
      go_wp2
      go_ret
      exact ⟨rfl, hdr⟩
end Go.Proofs.Qxb6627355a
