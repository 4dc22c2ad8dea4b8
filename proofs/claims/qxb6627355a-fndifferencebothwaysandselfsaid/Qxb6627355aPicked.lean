import Derived.Test.Qxb6627355aSorted
namespace Go.Proofs.Qxb6627355a
open Go.RowKit

set_option maxHeartbeats 4000000 in
theorem picked_calls {w : World} {sa ra pa : Option Addr} {sc rc pc : Nat} {P A : St} {R : List Nat} (hs : Srt w sa P) (hr : I32s w ra R) (hp : Srt w pa A) (vP : Valid P) (tP : tot P ≤ 1048576) (tA : tot A ≤ 1048576)
    (hpk : ∀ k, k < tot A → ∃ g j h x, g < A.G ∧ j < A.m g ∧ h < P.G ∧ x < P.m h ∧ el A g j = el P h x ∧ A.s g = P.s h ∧ rk A (el A g j) = k ∧ R[k]? = some (rk P (el P h x))) :
    Calls Try.prog 20 #[.slice sa (tot P) sc, .slice ra (tot A) rc, .slice pa (tot A) pc] w (BoolPost true w) := by
  obtain ⟨sb, hs⟩ := hs
  obtain ⟨rb, hr⟩ := hr
  obtain ⟨pb, hp⟩ := hp
  have HS : Hid _ := hs
  have HR : Hid _ := hr
  have HP : Hid _ := hp
  have HPK : Hid _ := hpk
  clear hs hr hp hpk
  go_enter Try.func20, Try.ntmps20
  go_wp2
  go_loopw [7] (fun x wr => ∃ k : Nat, k ≤ tot A ∧ x = .int .i64 k ∧ Drawn w wr) (fun x _ => tot A - (intOf x).toNat)
  case atStart => exact ⟨0, Nat.zero_le _, rfl, Drawn.refl _⟩
  case round =>
    obtain ⟨k, hk, rfl, hdr⟩ := hrel
    by_cases hlt : k < tot A
    · obtain ⟨g, j, h, x, h1, h2, h3, h4, he, hsz, hrk, hget⟩ := HPK.out k hlt
      obtain ⟨e1, c1⟩ := HR.out k _ hget
      obtain ⟨e2, A1, C1, c2, _, _, b2⟩ := HS.out h x h3 h4
      obtain ⟨e3, A2, C2, c3, _, _, b3⟩ := HP.out g j h1 h2
      rw [hrk] at c3
      have hrt := rk_lt_tot vP h3 h4
      have hs32 := vP.hi h h3
      have hcmp : cmp (ls (P.s h) (fun i => P.X h (x * P.s h + i))) (ls (A.s g) (fun i => A.X g (j * A.s g + i))) = 0 := by
        show cmp (el P h x) (el A g j) = 0
        rw [he, cmp_self]
      have hcon := fun d => compare_calls (w := wr.drewN d) (ca := C1) (cb := C2) ((b2.below hdr.below).below (below_draw wr d)) ((b3.below hdr.below).below (below_draw wr d)) (by omega) (by omega)
      rw [hcmp] at hcon
      unfold NumPost at hcon
      replace c1 := cell_keep' c1 hdr.below
      replace c2 := cell_keep' c2 hdr.below
      replace c3 := cell_keep' c3 hdr.below
      subst e1
      subst e2
      subst e3
      have hA20 : A.s g ≤ 1048576 := by omega
      clear hget he hrk hcmp b2 b3 hsz
      obtain ⟨rr, hrr⟩ : ∃ rr, rr = rk P (el P h x) := ⟨_, rfl⟩
      rw [← hrr] at c1 c2 hrt
      clear hrr
      have hri : (rr : Int) < (tot P : Int) := by omega
      have hki : (k : Int) < (tot A : Int) := by omega
      have hr0 : ¬ (rr : Int) < 0 := by omega
      have hr1 : ¬ (tot P : Int) ≤ (rr : Int) := by omega
      go_wp2
      go_quiet ((go_at_call 17; exact Calls.quiet_of (hcon _)))
      go_wp2
      go_roundw
      case rel => exact ⟨k + 1, by omega, by go_num, hdr.draw _⟩
      case measure => simp [intOf]; omega
    · obtain rfl : k = tot A := by omega
      go_wp2
      go_ret
      exact ⟨rfl, hdr⟩
end Go.Proofs.Qxb6627355a
