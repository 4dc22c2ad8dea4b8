import Derived.Test.Qxb6627355aLaw3
import Derived.Test.Qxb6627355aBalance
namespace Go.Proofs.Qxb6627355a
open Go.RowKit

/-- The elements of S, each at its rank. -/
def Srt (w : World) (a : Option Addr) (S : St) : Prop := ∃ b : Nat, ∀ g x, g < S.G → x < S.m g → a = some ⟨b, 0, none⟩ ∧ Row w ⟨b, rk S (el S g x), none⟩ (S.s g) (fun i => S.X g (x * S.s g + i))
theorem Srt.below {w w' : World} {a : Option Addr} {S : St} (h : Srt w a S) (hb : Below w.heap.size w w') : Srt w' a S := by
  obtain ⟨b, h⟩ := h
  exact ⟨b, fun g x h1 h2 => ⟨(h g x h1 h2).1, (h g x h1 h2).2.below hb⟩⟩
def SrtPost (S : St) (w : World) (e : Ending) (w' : World) : Prop := ∃ a c, e = .returned (.slice a (tot S) c) ∧ Srt w' a S ∧ Below w.heap.size w w'

/-- The first elements of S lie at their ranks. -/
def SrtTo (w0 wr : World) (mb : Nat) (S : St) (i j : Nat) : Prop :=
  (∃ f, wr.rowIs mb 38 (tot S) f ∧ ∀ g x, (g < i ∨ g = i ∧ x < j) → g < S.G → x < S.m g → ∃ A C, f (rk S (el S g x)) = .slice A (S.s g) C ∧ S.s g ≤ C ∧ (A = none → S.s g = 0) ∧ Bts w0 A (S.s g) (fun i => S.X g (x * S.s g + i))) ∧ Below w0.heap.size w0 wr
theorem SrtTo.start (w : World) (S : St) : SrtTo w (w.alloc (.cells (madeCells #[.slice none 0 0] (tot S)) 38)) w.heap.size S 0 0 :=
  ⟨⟨_, World.rowIs_made w _ _ _, fun g x h => by omega⟩, (Below.refl _ _).alloc (Nat.le_refl _) _⟩
theorem SrtTo.below {w0 wr : World} {mb : Nat} {S : St} {i j : Nat} (h : SrtTo w0 wr mb S i j) : Below w0.heap.size w0 wr := h.2
theorem SrtTo.drawn {w0 wr w1 : World} {mb : Nat} {S : St} {i j : Nat} (h : SrtTo w0 wr mb S i j) (hd : Drawn wr w1) : SrtTo w0 w1 mb S i j := by
  obtain ⟨d, rfl⟩ := hd
  exact ⟨h.1, below_drewN h.2 d⟩
theorem SrtTo.row {w0 wr : World} {mb : Nat} {S : St} {i : Nat} (h : SrtTo w0 wr mb S i (S.m i)) : SrtTo w0 wr mb S (i + 1) 0 := by
  obtain ⟨⟨f, h1, h2⟩, h3⟩ := h
  refine ⟨⟨f, h1, fun g x hg h4 h5 => h2 g x ?_ h4 h5⟩, h3⟩
  rcases hg with hg | ⟨_, hg⟩
  · rcases Nat.lt_succ_iff_lt_or_eq.1 hg with hl | rfl
    · exact Or.inl hl
    · exact Or.inr ⟨rfl, h5⟩
  · omega
theorem SrtTo.set {w0 wr : World} {mb : Nat} {S : St} {i j : Nat} (hv : Valid S) (h : SrtTo w0 wr mb S i j) (hmb : w0.heap.size ≤ mb) (hi : i < S.G) (hj : j < S.m i) {A : Option Addr} {C : Nat} (hC : S.s i ≤ C) (hA : A = none → S.s i = 0) (hB : Bts w0 A (S.s i) (fun t => S.X i (j * S.s i + t))) :
    SrtTo w0 (wr.setCell ⟨mb, rk S (el S i j), none⟩ (.slice A (S.s i) C)) mb S i (j + 1) := by
  obtain ⟨⟨f, h1, h2⟩, h3⟩ := h
  refine ⟨⟨_, h1.set _ _, fun g x hg h4 h5 => ?_⟩, h3.setCell hmb _⟩
  by_cases e : rk S (el S g x) = rk S (el S i j)
  · obtain ⟨e1, e2⟩ := el_inj hv h4 h5 hi hj (rk_inj hv h4 h5 hi hj e)
    subst e1
    subst e2
    exact ⟨A, C, by simp, hC, hA, hB⟩
  · simp only [if_neg e]
    refine h2 g x ?_ h4 h5
    rcases hg with hg | ⟨rfl, hg⟩
    · exact Or.inl hg
    · refine Or.inr ⟨rfl, ?_⟩
      rcases Nat.lt_succ_iff_lt_or_eq.1 hg with hl | rfl
      · exact hl
      · exact absurd rfl e
theorem SrtTo.done {w0 wr : World} {mb : Nat} {S : St} (hv : Valid S) (h : SrtTo w0 wr mb S S.G 0) : Srt wr (some ⟨mb, 0, none⟩) S := by
  obtain ⟨⟨f, h1, h2⟩, h3⟩ := h
  refine ⟨mb, fun g x hg hx => ⟨rfl, ?_⟩⟩
  obtain ⟨A, C, e, k1, k2, k3⟩ := h2 g x (Or.inl hg) hg hx
  exact ⟨A, C, by rw [h1.cell (rk_lt_tot hv hg hx), e], k1, k2, k3.below h3⟩

set_option maxHeartbeats 4000000 in
theorem sorted_calls {w : World} {a1 a2 : Option Addr} {c1 c2 : Nat} {S : St} (hS : SetIn w a1 a2 S) (hv : Valid S) (hsm : Small S) (htot : ∀ g, g ≤ S.G → sumTo S.m g ≤ 1048576) :
    Calls Try.prog 21 #[.slice a1 S.G c1, .slice a2 S.G c2] w (SrtPost S w) := by
  have hG := hsm.1
  have tS : tot S ≤ 1048576 := htot S.G (Nat.le_refl _)
  have kc := count_calls (c1 := c1) (c2 := c2) hS hv hsm htot
  have hmk := run_make_row' (P := Try.prog) 23 38 (.slice none 0 0) 24 Try.underlying23 Try.info38 rfl .i64 .i64 (tot S) (by omega) (by omega)
  go_enter Try.func21, Try.ntmps21
  go_wp2_with fail
  refine kc.mono ?_
  rintro e w0 ⟨rfl, d0⟩
  have hS0 := hS.below d0.below
  have hb0 := d0.below
  clear kc d0 hS
  go_wp2_with fail
  go_loopw [6] (fun x wr => ∃ i : Nat, i ≤ S.G ∧ x = .int .i64 i ∧ SrtTo w0 wr w0.heap.size S i 0) (fun x _ => S.G - (intOf x).toNat)
  case atStart => exact ⟨0, Nat.zero_le _, rfl, SrtTo.start w0 S⟩
  case round =>
    obtain ⟨i, hi, rfl, hto⟩ := hrel
    by_cases hlt : i < S.G
    · obtain ⟨zb, zo, hz⟩ := hS0.sizes
      obtain ⟨rb, ro, hrw⟩ := hS0.rows
      obtain ⟨ea1, z1⟩ := hz i hlt
      obtain ⟨ea2, A, C, r1, r2, r3, gb, go, r4⟩ := hrw i hlt
      clear hz hrw
      subst ea1
      subst ea2
      have hs1 := hv.lo i hlt
      have hs32 := hv.hi i hlt
      have hm1 := hv.pos i hlt
      have hMM := hsm.2 i hlt
      have hMp : 0 < S.m i * S.s i := Nat.mul_pos hm1 hs1
      obtain ⟨ea, _⟩ := r4 0 hMp
      subst ea
      have R4 : Hid (∀ t, t < S.m i * S.s i → w0.cell? ⟨gb, go + t, none⟩ = some (.int .u8 (S.X i t)) ∧ 0 ≤ S.X i t ∧ S.X i t ≤ 255) := fun t ht => (r4 t ht).2
      clear r4 r3
      replace r1 : w0.cell? ⟨rb, ro + i, none⟩ = some (.slice (some ⟨gb, go, none⟩) (S.m i * S.s i) C) := r1
      replace r2 : S.m i * S.s i ≤ C := r2
      replace z1 : w0.cell? ⟨zb, zo + i, none⟩ = some (.int .i64 (S.s i : Int)) := z1
      replace z1 := cell_keep' z1 hto.below
      replace r1 := cell_keep' r1 hto.below
      have HNX : Hid (∀ j, j < S.m i → j * S.s i + S.s i ≤ S.m i * S.s i) := fun j hj => mul_next hj
      obtain ⟨MM, hMMe⟩ : ∃ MM, MM = S.m i * S.s i := ⟨_, rfl⟩
      have HMM : Hid (MM = S.m i * S.s i) := hMMe
      rw [← hMMe] at r1 r2 R4 hMM HNX
      clear hMMe hMp
      go_wp2_with fail
      go_loopw [9] (fun x wi => ∃ j : Nat, j ≤ S.m i ∧ x = .int .i64 ((j * S.s i : Nat) : Int) ∧ SrtTo w0 wi w0.heap.size S i j) (fun x _ => MM + S.s i - (intOf x).toNat)
      case atStart => exact ⟨0, Nat.zero_le _, by simp, hto⟩
      case round =>
        obtain ⟨j, hj, rfl, htoj⟩ := hrel
        by_cases hjl : j < S.m i
        · have hnx := HNX.out j hjl
          have HEL : Hid (el S i j = ls (S.s i) (fun t => S.X i (j * S.s i + t))) := rfl
          have hel0 : Bts w0 (some ⟨gb, go + j * S.s i, none⟩) (S.s i) (fun t => S.X i (j * S.s i + t)) := Bts.piece (n := MM) (fun t ht => R4.out t ht) hnx
          have HSET : Hid (∀ w3 : World, SrtTo w0 w3 w0.heap.size S i j → SrtTo w0 (w3.setCell ⟨w0.heap.size, rk S (el S i j), none⟩ (.slice (some ⟨gb, go + j * S.s i, none⟩) (S.s i) (C - j * S.s i))) w0.heap.size S i (j + 1)) := fun w3 h3 => h3.set hv (Nat.le_refl _) hlt hjl (by omega) (fun e => by cases e) hel0
          have hrt := rk_lt_tot hv hlt hjl
          have hcon := rank_calls (pc := C - j * S.s i) (c1 := c1) (c2 := c2) (hel0.below htoj.below) (hS0.below htoj.below) hv hsm (by omega) tS
          rw [← HEL.out] at hcon
          obtain ⟨q, hq⟩ : ∃ q, q = j * S.s i := ⟨_, rfl⟩
          have HQ : Hid (q = j * S.s i) := hq
          obtain ⟨rr, hrr⟩ : ∃ rr, rr = rk S (el S i j) := ⟨_, rfl⟩
          rw [← hq] at HEL hnx hcon HSET ⊢
          rw [← hrr] at hrt hcon HSET
          clear hq hrr hel0
          have e1 : (q : Int) + (S.s i : Int) ≤ (MM : Int) := by omega
          have e1' : (q : Int) + (S.s i : Int) ≤ (C : Int) := by omega
          have e2 : ¬ C = q := by omega
          have e3 : q ≤ 1048576 := by omega
          have e4 : S.s i ≤ 1048576 := by omega
          have hri : (rr : Int) < (tot S : Int) := by omega
          go_wp2_with fail
          refine hcon.mono ?_
          rintro e w3 ⟨rfl, d3⟩
          have HM3 : Hid (SrtTo w0 w3 w0.heap.size S i j) := htoj.drawn d3
          obtain ⟨⟨f, mrow, _⟩, _⟩ := HM3.out
          have m1 := mrow.cell hrt
          have m2 := mrow.frozen rr
          have HM4 := HSET.out w3 HM3.out
          have HM5 : Hid _ := HM4
          clear hcon d3 HM3 mrow HSET HM4 htoj
          go_wp2_with fail
          go_roundw
          case rel => exact ⟨j + 1, by omega, by rw [Nat.succ_mul, ← HQ.out]; go_num, HM5.out⟩
          case measure => simp [intOf]; omega
        · obtain rfl : j = S.m i := by omega
          have HMK : Hid (SrtTo w0 wr w0.heap.size S (i + 1) 0) := htoj.row
          clear htoj
          rw [← HMM.out]
          have e1 : ¬ (MM : Int) + (S.s i : Int) ≤ (MM : Int) := by omega
          go_wp2_with fail
          go_roundw
          case rel => exact ⟨i + 1, by omega, by go_num, HMK.out⟩
          case measure => simp [intOf]; omega
    · obtain rfl : i = S.G := by omega
      have HD : Hid (Srt wr (some ⟨w0.heap.size, 0, none⟩) S) := hto.done hv
      have HB : Hid (Below w.heap.size w wr) := hb0.trans (hto.below.mono hb0.size)
      clear hto
      go_wp2
      go_ret
      exact ⟨_, _, rfl, HD.out, HB.out⟩
end Go.Proofs.Qxb6627355a
