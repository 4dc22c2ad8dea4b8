import Derived.Test.Qxb6630895aEach
import Derived.BigRegion
namespace Go.Proofs.Qxb6630895a
open Go.RowKit

/-! ### The first visit: it counts -/
structure I1 (S bs n : Nat) (V : Nat → Nat) (w : World) : Prop where
  var : w.cell? ⟨S, 0, none⟩ = some (.slice (some ⟨bs, 0, none⟩) (n + 1) (n + 1))
  row : w.rowIs bs 3 (n + 1) (fun k => .int .i64 (if k = 0 then 0 else (V (k - 1) : Int)))

theorem cell_set {w : World} {b i : Nat} {p : Addr} {v u : Value} (h : w.cell? p = some v) (hb : p.block ≠ b) : (w.setCell ⟨b, i, none⟩ u).cell? p = some v := by
  rw [World.cell?_of_block (Below.heap_setCell w ⟨b, i, none⟩ u p.block hb)]; exact h

theorem I1.stab {S bs n b : Nat} (h1 : S ≠ b) (h2 : bs ≠ b) : ∀ (V : Nat → Nat) (w : World) (i : Nat) (v : Value), I1 S bs n V w → I1 S bs n V (w.setCell ⟨b, i, none⟩ v) :=
  fun _ _ _ _ h => ⟨cell_set h.var h1, h.row.setOther h2 _⟩

theorem I1.bump {S bs n : Nat} {V : Nat → Nat} {w : World} (h : I1 S bs n V w) (hS : S ≠ bs) (c : Nat) :
    I1 S bs n (fun x => V x + if x = c then 1 else 0) (w.setCell ⟨bs, c + 1, none⟩ (.int .i64 ((V c : Int) + 1))) :=
  ⟨cell_set h.var hS, (h.row.set (c + 1) _).congr (fun k _ => by
    by_cases e : k = c + 1
    · subst e; simp
    · rw [if_neg e]
      by_cases e0 : k = 0
      · simp [e0]
      · have : ¬ k - 1 = c := by omega
        simp [e0, this])⟩

set_option maxHeartbeats 400000 in
theorem visit1 (D : Inp) (B S bs n : Nat) (hn : n ≤ 65536) (hN : D.N ≤ 1048576) (hS : S ≠ bs) (hbs : B + 3 ≤ bs) :
    ∀ (V : Nat → Nat) (c f : Nat) (w : World), I1 S bs n V w → c < n → f < D.N → V c = cnt D (c : Int) f → hasF D f (c : Int) = true →
      Calls Try.prog 17 #[.int .i32 (f : Int), .int .i32 (c : Int), .pointer (some ⟨S, 0, none⟩)] w fun e w' => e = .returned (.tuple #[]) ∧ I1 S bs n (fun x => V x + if x = c then 1 else 0) w' ∧ Below (B + 3) w w' := by
  intro V c f w hI hc hf hV _
  have hle := cnt_le D (c : Int) f
  have hVb : V c ≤ 1048576 := by omega
  have hv := hI.var
  have hr := hI.row.cell (i := c + 1) (by omega)
  have hz := hI.row.frozen (c + 1)
  have e1 : (if c + 1 = 0 then (0 : Int) else (V (c + 1 - 1) : Int)) = (V c : Int) := by simp
  rw [e1] at hr
  have HV : Hid (V c = cnt D (c : Int) f) := hV
  clear hV e1 hle
  go_enter Try.func17, Try.ntmps17
  go_wp2
  go_end0
  exact ⟨rfl, hI.bump hS c, (Below.refl _ _).setCell hbs _⟩

/-! ### The second visit: it lists -/
structure I2 (D : Inp) (X Y b bs bf g cap n : Nat) (V : Nat → Nat) (w : World) : Prop where
  x : w.cell? ⟨X, 0, none⟩ = some (.pointer (some ⟨b, 0, none⟩))
  sc : w.cell? ⟨b, 0, none⟩ = some (.slice (some ⟨bs, 0, none⟩) (n + 1) (n + 1))
  fc : w.cell? ⟨b, 1, none⟩ = some (.slice (some ⟨bf, 0, none⟩) (st D n) (st D n))
  srow : w.rowIs bs 3 (n + 1) (fun k => .int .i64 (st D k : Int))
  frow : ∃ fl : Nat → Int, w.rowIs bf 21 (st D n) (fun x => .int .i32 (fl x)) ∧
    ∀ c f : Nat, c < n → f < D.N → hasF D f (c : Int) = true → cnt D (c : Int) f < V c → fl (st D c + cnt D (c : Int) f) = (f : Int)
  nx : 0 < n → w.cell? ⟨Y, 0, none⟩ = some (.slice (some ⟨g, 0, none⟩) n cap) ∧ n ≤ cap ∧ ∃ h : Nat → Value, w.rowIs g 3 cap h ∧ ∀ c, c < n → h c = .int .i64 ((st D c : Int) + (V c : Int))

/-- The blocks are not one another. -/
structure Apart (B X Y b bs bf g : Nat) : Prop where
  lf : B + 3 ≤ bf
  lg : B + 3 ≤ g
  Xl : B + 2 ≤ X
  Yl : B + 2 ≤ Y
  bl : B + 2 ≤ b
  bsl : B + 2 ≤ bs
  Xf : X ≠ bf
  Yf : Y ≠ bf
  bf' : b ≠ bf
  bsf : bs ≠ bf
  Xg : X ≠ g
  Yg : Y ≠ g
  bg : b ≠ g
  bsg : bs ≠ g
  fg : bf ≠ g

theorem I2.stab {D : Inp} {B X Y b bs bf g cap n : Nat} (ap : Apart B X Y b bs bf g) : ∀ (V : Nat → Nat) (w : World) (i : Nat) (v : Value), I2 D X Y b bs bf g cap n V w → I2 D X Y b bs bf g cap n V (w.setCell ⟨B + 1, i, none⟩ v) := by
  intro V w i v h
  obtain ⟨a1, a2, a3, a4, a5, a6, _, _, _, _, _, _, _, _, _⟩ := ap
  refine ⟨cell_set h.x (by show X ≠ B + 1; omega), cell_set h.sc (by show b ≠ B + 1; omega), cell_set h.fc (by show b ≠ B + 1; omega), h.srow.setOther (by show bs ≠ B + 1; omega) _, ?_, fun hn => ?_⟩
  · obtain ⟨fl, hr, hf⟩ := h.frow
    exact ⟨fl, hr.setOther (by show bf ≠ B + 1; omega) _, hf⟩
  · obtain ⟨h1, h2, k, hr, hk⟩ := h.nx hn
    exact ⟨cell_set h1 (by show Y ≠ B + 1; omega), h2, k, hr.setOther (by show g ≠ B + 1; omega) _, hk⟩

theorem I2.bump {D : Inp} {B X Y b bs bf g cap n : Nat} (ap : Apart B X Y b bs bf g) {V : Nat → Nat} {w : World} (h : I2 D X Y b bs bf g cap n V w) {c f : Nat} (hc : c < n) (hf : f < D.N)
    (hV : V c = cnt D (c : Int) f) (hh : hasF D f (c : Int) = true) (p : Nat) (hp : p = st D c + V c) :
    I2 D X Y b bs bf g cap n (fun x => V x + if x = c then 1 else 0) ((w.setCell ⟨bf, p, none⟩ (.int .i32 (f : Int))).setCell ⟨g, c, none⟩ (.int .i64 ((p : Int) + 1))).drew := by
  subst hp
  obtain ⟨a1, a2, a3, a4, a5, a6, b1, b2, b3, b4, b5, b6, b7, b8, b9⟩ := ap
  have two : ∀ {p : Addr} {v : Value}, w.cell? p = some v → p.block ≠ bf → p.block ≠ g → (((w.setCell ⟨bf, st D c + V c, none⟩ (.int .i32 (f : Int))).setCell ⟨g, c, none⟩ (.int .i64 (((st D c + V c : Nat) : Int) + 1))).drew).cell? p = some v :=
    fun {p v} hp h1 h2 => cell_set (cell_set hp h1) h2
  refine ⟨two h.x b1 b5, two h.sc b3 b7, two h.fc b3 b7, ((h.srow.setOther b4 _).setOther b8 _).drew, ?_, fun hn => ?_⟩
  · obtain ⟨fl, hr, hfl⟩ := h.frow
    refine ⟨fun x => if x = st D c + V c then (f : Int) else fl x, (((hr.set _ _).setOther b9 _).drew).congr (fun x _ => ?_), fun x y hx hy hhy hlt => ?_⟩
    · by_cases e : x = st D c + V c
      · simp [e]
      · simp [e]
    · have hyN := cnt_lt hhy hy
      have hfN := cnt_lt hh hf
      by_cases e : st D x + cnt D (x : Int) y = st D c + V c
      · rw [hV] at e
        obtain ⟨rfl, e2⟩ := st_apart hyN hfN e
        have := cnt_inj hhy hh e2
        subst this
        simp [hV]
      · simp only [if_neg e]
        refine hfl x y hx hy hhy ?_
        by_cases exc : x = c
        · subst exc
          simp at hlt
          omega
        · simpa [exc] using hlt
  · obtain ⟨h1, h2, k, hr, hk⟩ := h.nx hn
    refine ⟨two h1 b2 b6, h2, _, ((hr.setOther (Ne.symm b9) _).set c _).drew, fun x hx => ?_⟩
    by_cases e : x = c
    · subst e
      simp
      omega
    · simp only [if_neg e]
      rw [hk x hx]
      simp

set_option maxHeartbeats 400000 in
theorem visit2 (D : Inp) (B X Y b bs bf g cap n : Nat) (hn : n ≤ 65536) (hN : D.N ≤ 1048576) (ap : Apart B X Y b bs bf g) :
    ∀ (V : Nat → Nat) (c f : Nat) (w : World), I2 D X Y b bs bf g cap n V w → c < n → f < D.N → V c = cnt D (c : Int) f → hasF D f (c : Int) = true →
      Calls Try.prog 18 #[.int .i32 (f : Int), .int .i32 (c : Int), .pointer (some ⟨X, 0, none⟩), .pointer (some ⟨Y, 0, none⟩)] w fun e w' => e = .returned (.tuple #[]) ∧ I2 D X Y b bs bf g cap n (fun x => V x + if x = c then 1 else 0) w' ∧ Below (B + 3) w w' := by
  intro V c f w hI hc hf hV hh
  have hlt : st D c + V c < st D n := by rw [hV]; exact st_in hc (cnt_lt hh hf)
  have hsn := st_le D n
  have hsb : n * D.N ≤ 65536 * 1048576 := Nat.mul_le_mul hn hN
  obtain ⟨p, hp⟩ : ∃ p, p = st D c + V c := ⟨_, rfl⟩
  have B2 := hI.bump ap hc hf hV hh p hp
  have hx := hI.x
  have hfc := hI.fc
  obtain ⟨hY, hcap, k, hk, hkc⟩ := hI.nx (by omega)
  have hnc := hk.cell (i := c) (by omega)
  have hnz := hk.frozen c
  rw [hkc c hc, show ((st D c : Int) + (V c : Int)) = (p : Int) from by omega] at hnc
  obtain ⟨fl, hr, _⟩ := hI.frow
  rw [← hp] at hlt
  have hfp := hr.cell hlt
  have hfz := hr.frozen p
  have hlt' : (p : Int) < (st D n : Int) := by omega
  have hpb : p ≤ 68719476736 := by omega
  have y2 : (w.setCell ⟨bf, p, none⟩ (.int .i32 (f : Int))).cell? ⟨Y, 0, none⟩ = some (.slice (some ⟨g, 0, none⟩) n cap) := cell_set hY ap.Yf
  have y3 : (w.setCell ⟨bf, p, none⟩ (.int .i32 (f : Int))).cell? ⟨g, c, none⟩ = some (.int .i64 (p : Int)) := cell_set hnc (Ne.symm ap.fg)
  have BEL : Hid (Below (B + 3) w ((w.setCell ⟨bf, p, none⟩ (.int .i32 (f : Int))).setCell ⟨g, c, none⟩ (.int .i64 ((p : Int) + 1))).drew) := (((Below.refl _ _).setCell ap.lf _).setCell ap.lg _).drew
  have BH : Hid _ := B2
  clear B2 hV hh hp hkc hk hr hI ap
  go_enter Try.func18, Try.ntmps18
  go_wp2
  go_region
  go_wp2
  go_end0
  exact ⟨rfl, BH.out, BEL.out⟩
end Go.Proofs.Qxb6630895a
