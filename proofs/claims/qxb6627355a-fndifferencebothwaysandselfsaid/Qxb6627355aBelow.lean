import Derived.Test.Qxb6627355aCompare
import Derived.WalkSpells
namespace Go.Proofs.Qxb6627355a
open Go.RowKit

/-- Element j of a row of elements of s bytes. -/
def elem (s : Nat) (X : Nat → Int) (j : Nat) : List Int := ls s (fun i => X (j * s + i))

set_option maxHeartbeats 1000000 in
theorem below_calls {w : World} {pa ga : Option Addr} {np pc s m M gc : Nat} {P X : Nat → Int} (hp : Bts w pa np P) (hMe : M = m * s) (hg : Bts w ga M X) (hs : 1 ≤ s) (hgc : M ≤ gc) (hM : M ≤ 1048576) (hnp : np ≤ 1048576)
    (hasc : Asc (elem s X) m) :
    Calls Try.prog 26 #[.slice pa np pc, .slice ga M gc, .int .i64 (s : Int)] w (NumPost (blw (elem s X) (ls np P) m : Int) w) := by
  have hble := blw_le (elem s X) (ls np P) m
  have hms : m ≤ M := by rw [hMe]; exact Nat.le_mul_of_pos_right m (by omega)
  have hdiv : (M : Int) / (s : Int) = (m : Int) := by
    rw [hMe, Int.natCast_mul]; exact Int.mul_ediv_cancel _ (by omega)
  obtain ⟨gb, go, hg⟩ := hg
  have HG : Hid (∀ i, i < M → ga = some ⟨gb, go, none⟩ ∧ w.cell? ⟨gb, go + i, none⟩ = some (.int .u8 (X i)) ∧ 0 ≤ X i ∧ X i ≤ 255) := hg
  have HME : Hid (M = m * s) := hMe
  clear hg hMe
  have hs0 : (0 : Int) < (s : Int) := by omega
  go_enter Try.func26, Try.ntmps26
  go_wp2
  go_loopw [7, 8] (fun x y wr => ∃ lo hi : Nat, lo ≤ blw (elem s X) (ls np P) m ∧ blw (elem s X) (ls np P) m ≤ hi ∧ hi ≤ m ∧ x = .int .i64 lo ∧ y = .int .i64 hi ∧ Drawn w wr) (fun x y _ => (intOf y).toNat - (intOf x).toNat)
  case atStart => exact ⟨0, m, Nat.zero_le _, hble, Nat.le_refl _, rfl, by first | rfl | go_num, Drawn.refl _⟩
  case round =>
    obtain ⟨lo, hi, h1, h2, h3, rfl, rfl, hdr⟩ := hrel
    by_cases hlt : lo < hi
    · obtain ⟨mid, hmid⟩ : ∃ mid, mid = lo + (hi - lo) / 2 := ⟨_, rfl⟩
      have hmid' : (lo : Int) + ((hi : Int) - (lo : Int)) / 2 = (mid : Int) := by omega
      have m1 : lo ≤ mid := by omega
      have m2 : mid < hi := by omega
      obtain ⟨q, hq⟩ : ∃ q, q = mid * s := ⟨_, rfl⟩
      have hmul : (mid : Int) * (s : Int) = (q : Int) := by rw [hq, Int.natCast_mul]
      have hqM : q + s ≤ M := by
        have : (mid + 1) * s ≤ m * s := Nat.mul_le_mul_right s (by omega)
        rw [Nat.succ_mul, ← hq] at this
        have := HME.out; omega
      have hspec := blw_spec (p := ls np P) hasc (j := mid) (by omega)
      obtain ⟨ea, _⟩ := HG.out q (by omega)
      subst ea
      have hel : Bts wr (some ⟨gb, go + q, none⟩) s (fun i => X (q + i)) := Bts.piece (n := M) (fun i hi => ⟨cell_keep' (HG.out i hi).2.1 hdr.below, (HG.out i hi).2.2⟩) hqM
      have he : elem s X mid = ls s (fun i => X (q + i)) := by unfold elem; rw [hq]
      rw [he] at hspec
      have HQ : Hid (q = mid * s) := hq
      have HM : Hid (mid = lo + (hi - lo) / 2) := hmid
      clear hq hmid he
      have hcon := compare_calls (ca := gc - q) (cb := pc) hel (hp.below hdr.below) (by omega) hnp
      have k1 : (q : Int) + (s : Int) ≤ (gc : Int) := by omega
      have k2 : ¬ gc = q := by omega
      have k3 : q ≤ 1048576 := by omega
      have k4 : s ≤ 1048576 := by omega
      unfold NumPost at hcon
      generalize cmp (ls s fun i => X (q + i)) (ls np P) = r at hcon hspec
      have HSP : Hid (r < 0 ↔ mid < blw (elem s X) (ls np P) m) := hspec
      clear hspec hel
      by_cases hc : r < 0
      · have hb := HSP.out.1 hc
        go_wp2_with fail
        refine hcon.mono ?_
        rintro e w2 ⟨rfl, hd2⟩
        have hdr2 := hdr.trans hd2
        clear hcon hd2
        go_wp2
        go_roundw
        case rel => exact ⟨mid + 1, hi, by omega, by omega, by omega, by go_num, rfl, hdr2⟩
        case measure => simp [intOf]; omega
      · have hb : ¬ mid < blw (elem s X) (ls np P) m := fun h => hc (HSP.out.2 h)
        go_wp2_with fail
        refine hcon.mono ?_
        rintro e w2 ⟨rfl, hd2⟩
        have hdr2 := hdr.trans hd2
        clear hcon hd2
        go_wp2
        go_roundw
        case rel => exact ⟨lo, mid, by omega, by omega, by omega, rfl, rfl, hdr2⟩
        case measure => simp [intOf]; omega
    · go_wp2
      go_ret
      exact ⟨by rw [show blw (elem s X) (ls np P) m = lo by omega]; rfl, hdr⟩

/-! ### A valid set in memory -/
structure SetIn (w : World) (a1 a2 : Option Addr) (S : St) : Prop where
  sizes : Ints w a1 S.G (fun g => (S.s g : Int))
  rows : Rws w a2 S.G (fun g => S.m g * S.s g) S.X
theorem SetIn.below {w w' : World} {a1 a2 : Option Addr} {S : St} (h : SetIn w a1 a2 S) (hb : Below w.heap.size w w') : SetIn w' a1 a2 S := ⟨h.sizes.below hb, h.rows.below hb⟩
/-- No row is longer than 2^20. -/
def Small (S : St) : Prop := S.G ≤ 1048576 ∧ ∀ g, g < S.G → S.m g * S.s g ≤ 1048576

set_option maxHeartbeats 1000000 in
theorem rank_calls {w : World} {pa a1 a2 : Option Addr} {np pc c1 c2 : Nat} {P : Nat → Int} {S : St} (hp : Bts w pa np P) (hS : SetIn w a1 a2 S) (hv : Valid S) (hsm : Small S) (hnp : np ≤ 1048576) (htot : tot S ≤ 1048576) :
    Calls Try.prog 14 #[.slice pa np pc, .slice a1 S.G c1, .slice a2 S.G c2] w (NumPost (rk S (ls np P) : Int) w) := by
  have hG := hsm.1
  obtain ⟨zb, zo, hz⟩ := hS.sizes
  obtain ⟨rb, ro, hr⟩ := hS.rows
  go_enter Try.func14, Try.ntmps14
  go_wp2
  go_loopw [7, 8] (fun y x wr => ∃ g : Nat, g ≤ S.G ∧ x = .int .i64 g ∧ y = .int .i64 (sumTo (fun g => blw (el S g) (ls np P) (S.m g)) g : Int) ∧ Drawn w wr) (fun _ x _ => S.G - (intOf x).toNat)
  case atStart => exact ⟨0, Nat.zero_le _, rfl, rfl, Drawn.refl _⟩
  case round =>
    obtain ⟨g, hg, rfl, rfl, hdr⟩ := hrel
    by_cases hlt : g < S.G
    · obtain ⟨rfl, k1⟩ := hz g hlt
      obtain ⟨rfl, A, C, k2, k3, k4, k5⟩ := hr g hlt
      replace k1 := cell_keep' k1 hdr.below
      replace k2 := cell_keep' k2 hdr.below
      have hcon := fun d => below_calls (w := wr.drewN d) (pc := pc) (gc := C) ((hp.below hdr.below).below (below_draw wr d)) rfl ((k5.below hdr.below).below (below_draw wr d)) (hv.lo g hlt) k3 (hsm.2 g hlt) hnp (hv.ord g hlt)
      clear hz hr k5
      have hb := blw_le (el S g) (ls np P) (S.m g)
      have hsum : sumTo (fun g => blw (el S g) (ls np P) (S.m g)) (g + 1) ≤ tot S := by
        have h1 : sumTo (fun g => blw (el S g) (ls np P) (S.m g)) (g + 1) ≤ sumTo S.m (g + 1) := sumTo_le fun _ _ => blw_le _ _ _
        have h2 : ∀ a b, a ≤ b → sumTo S.m a ≤ sumTo S.m b := by
          intro a b hab
          induction b with
          | zero => have : a = 0 := by omega
                    subst this; exact Nat.le_refl _
          | succ b ih =>
            rcases Nat.lt_or_ge a (b + 1) with hl | hl
            · have := ih (by omega); simp only [sumTo]; omega
            · have : a = b + 1 := by omega
              subst this; exact Nat.le_refl _
        exact Nat.le_trans h1 (h2 _ _ hlt)
      have HS : Hid (sumTo (fun g => blw (el S g) (ls np P) (S.m g)) (g + 1) = sumTo (fun g => blw (el S g) (ls np P) (S.m g)) g + blw (el S g) (ls np P) (S.m g)) := rfl
      have hcon' : ∀ d, Calls Try.prog 26 #[.slice pa np pc, .slice A (S.m g * S.s g) C, .int .i64 (S.s g : Int)] (wr.drewN d) (NumPost (blw (el S g) (ls np P) (S.m g) : Int) (wr.drewN d)) := hcon
      clear hcon
      rw [HS.out] at hsum
      generalize sumTo (fun g => blw (el S g) (ls np P) (S.m g)) g = acc at *
      generalize blw (el S g) (ls np P) (S.m g) = bb at *
      go_wp2
      go_quiet ((go_at_call 26; exact Calls.quiet_of (hcon' _)))
      go_wp2
      go_roundw
      case rel => exact ⟨g + 1, by omega, by go_num, by rw [HS.out]; go_num, hdr.draw _⟩
      case measure => simp [intOf]; omega
    · obtain rfl : g = S.G := by omega
      go_wp2
      go_ret
      exact ⟨rfl, hdr⟩
end Go.Proofs.Qxb6627355a
