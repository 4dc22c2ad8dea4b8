import Derived.Test.Qxb6627355aWalk
namespace Go.Proofs.Qxb6627355a
open Go.RowKit

/-- The groups of a valid set: where each row lies. -/
structure GrAt (w0 : World) (ga : Option Addr) (S : St) (gb go : Nat) (rb ro cap : Nat → Nat) : Prop where
  at_ : ∀ g, g < S.G → ga = some ⟨gb, go, none⟩ ∧ w0.cell? ⟨gb, go + g * 2, none⟩ = some (.int .i64 (S.s g : Int)) ∧ w0.cell? ⟨gb, go + g * 2 + 1, none⟩ = some (.slice (some ⟨rb g, ro g, none⟩) (S.m g * S.s g) (cap g)) ∧ S.m g * S.s g ≤ cap g ∧
    ∀ i, i < S.m g * S.s g → w0.cell? ⟨rb g, ro g + i, none⟩ = some (.int .u8 (S.X g i)) ∧ 0 ≤ S.X g i ∧ S.X g i ≤ 255

theorem grat_of {w0 : World} {ga : Option Addr} {S : St} (h : Grs w0 ga S.G (fun g => (S.s g : Int)) (fun g => S.m g * S.s g) S.X) (hv : Valid S) : ∃ gb go rb ro cap, GrAt w0 ga S gb go rb ro cap := by
  obtain ⟨gb, go, A, C, h⟩ := grs_choose h
  obtain ⟨R, hR⟩ := Deep.choose_lt (α := Nat × Nat) (n := S.G) (p := fun g y => A g = some ⟨y.1, y.2, none⟩ ∧ ∀ i, i < S.m g * S.s g → w0.cell? ⟨y.1, y.2 + i, none⟩ = some (.int .u8 (S.X g i)) ∧ 0 ≤ S.X g i ∧ S.X g i ≤ 255) (fun g hg => by
    obtain ⟨_, _, _, _, _, b, o, hb⟩ := h g hg
    have hpos : 0 < S.m g * S.s g := Nat.mul_pos (hv.pos g hg) (hv.lo g hg)
    exact ⟨(b, o), (hb 0 hpos).1, fun i hi => (hb i hi).2⟩)
  refine ⟨gb, go, fun g => (R g).1, fun g => (R g).2, C, ⟨fun g hg => ?_⟩⟩
  obtain ⟨h1, h2, h3, h4, _, _⟩ := h g hg
  obtain ⟨r1, r2⟩ := hR g hg
  exact ⟨h1, h2, by rw [h3, r1], h4, r2⟩

/-- The value that stands for element j of group g. -/
def pv (S : St) (rb ro : Nat → Nat) (g j : Nat) : Value := .slice (some ⟨rb g, ro g + j * S.s g, none⟩) (S.s g) (S.s g)
theorem GrAt.bts {w0 : World} {ga : Option Addr} {S : St} {gb go : Nat} {rb ro cap : Nat → Nat} (h : GrAt w0 ga S gb go rb ro cap) {g j : Nat} (hg : g < S.G) (hj : j < S.m g) : Bts w0 (some ⟨rb g, ro g + j * S.s g, none⟩) (S.s g) (fun i => S.X g (j * S.s g + i)) := by
  obtain ⟨_, _, _, _, h5⟩ := h.at_ g hg
  refine Bts.piece h5 ?_
  have := Nat.mul_le_mul_right (S.s g) (show j + 1 ≤ S.m g by omega)
  rw [Nat.succ_mul] at this; exact this

/-- The least of the elements that stand first, over the groups below k. -/
def Best (S : St) (J : Nat → Nat) (k g : Nat) : Prop := g < k ∧ J g < S.m g ∧ ∀ h, h < k → J h < S.m h → h = g ∨ cmp (el S g (J g)) (el S h (J h)) < 0
def bump (J : Nat → Nat) (g : Nat) : Nat → Nat := fun i => if i = g then J i + 1 else J i

def NextPost (S : St) (rb ro : Nat → Nat) (p q : Nat) (ga : Option Addr) (gc : Nat) (J : Nat → Nat) (w : World) (e : Ending) (w' : World) : Prop :=
  w.grownBy w' (some q) ∧ ((e = .returned (.slice none 0 0) ∧ (∀ h, h < S.G → J h = S.m h) ∧ WalkIn w' p q ga S.G gc S.s J) ∨
    ∃ g, Best S J S.G g ∧ e = .returned (pv S rb ro g (J g)) ∧ WalkIn w' p q ga S.G gc S.s (bump J g))

def BestV (S : St) (rb ro : Nat → Nat) (J : Nat → Nat) (k : Nat) (x y : Value) : Prop :=
  (x = .slice none 0 0 ∧ y = .int .i64 (-1) ∧ ∀ h, h < k → J h = S.m h) ∨ ∃ g, Best S J k g ∧ x = pv S rb ro g (J g) ∧ y = .int .i64 (g : Int)

theorem best_skip {S : St} {J : Nat → Nat} {k g : Nat} (h : Best S J k g) (hk : ¬ J k < S.m k) : Best S J (k + 1) g :=
  ⟨by have := h.1; omega, h.2.1, fun i hi hm => by
    rcases Nat.lt_succ_iff_lt_or_eq.1 hi with hl | rfl
    · exact h.2.2 i hl hm
    · exact absurd hm hk⟩
theorem best_first {S : St} {J : Nat → Nat} {k : Nat} (h : ∀ i, i < k → J i = S.m i) (hk : J k < S.m k) : Best S J (k + 1) k :=
  ⟨by omega, hk, fun i hi hm => by
    rcases Nat.lt_succ_iff_lt_or_eq.1 hi with hl | rfl
    · have := h i hl; omega
    · exact Or.inl rfl⟩
theorem best_new {S : St} {J : Nat → Nat} {k g : Nat} (h : Best S J k g) (hk : J k < S.m k) (hc : cmp (el S k (J k)) (el S g (J g)) < 0) : Best S J (k + 1) k :=
  ⟨by omega, hk, fun i hi hm => by
    rcases Nat.lt_succ_iff_lt_or_eq.1 hi with hl | rfl
    · rcases h.2.2 i hl hm with rfl | h'
      · exact Or.inr hc
      · exact Or.inr (cmp_trans hc h')
    · exact Or.inl rfl⟩
theorem best_old {S : St} (hv : Valid S) {J : Nat → Nat} {k g : Nat} (h : Best S J k g) (hkG : k < S.G) (hk : J k < S.m k) (hc : ¬ cmp (el S k (J k)) (el S g (J g)) < 0) : Best S J (k + 1) g :=
  ⟨by have := h.1; omega, h.2.1, fun i hi hm => by
    rcases Nat.lt_succ_iff_lt_or_eq.1 hi with hl | rfl
    · exact h.2.2 i hl hm
    · refine Or.inr ?_
      rcases cmp_tri (el S i (J i)) (el S g (J g)) with h1 | h1 | h1
      · exact absurd h1 hc
      · have := (el_inj hv hkG hk (by have := h.1; omega) h.2.1 h1).1
        have := h.1; omega
      · exact h1⟩

set_option maxHeartbeats 4000000 in
theorem next_calls {w0 w : World} {ga : Option Addr} {gc p q gb go : Nat} {rb ro cap : Nat → Nat} {S : St} {J : Nat → Nat} (hv : Valid S) (hsm : Small S) (hgr : GrAt w0 ga S gb go rb ro cap) (hb0 : Below w0.heap.size w0 w)
    (hw : WalkIn w p q ga S.G gc S.s J) (hJ : ∀ g, g < S.G → J g ≤ S.m g) :
    Calls Try.prog 23 #[.pointer (some ⟨p, 0, none⟩)] w (NextPost S rb ro p q ga gc J w) := by
  obtain ⟨hpq, hf, hs, hrow⟩ := hw
  have hpl := cell_lt hf
  have hql := hrow.lt
  have HW : Hid (WalkIn w p q ga S.G gc S.s J) := ⟨hpq, hf, hs, hrow⟩
  have HG : Hid (GrAt w0 ga S gb go rb ro cap) := hgr
  have HB0 : Hid (Below w0.heap.size w0 w) := hb0
  have HJ : Hid (∀ g, g < S.G → J g ≤ S.m g) := hJ
  have hSG := hsm.1
  clear hgr hb0 hrow hJ
  go_enter Try.func23, Try.ntmps23
  go_wp2
  go_loopw [3, 4, 13] (fun x y z wr => ∃ k : Nat, k ≤ S.G ∧ z = .int .i64 k ∧ w.grownBy wr none ∧ BestV S rb ro J k x y) (fun _ _ z _ => S.G - (intOf z).toNat)
  case atStart => exact ⟨0, Nat.zero_le _, rfl, ⟨rfl, rfl, rfl, Nat.le_refl _, fun _ _ _ => rfl⟩, Or.inl ⟨rfl, rfl, fun _ h => absurd h (Nat.not_lt_zero _)⟩⟩
  case round =>
    obtain ⟨k, hk, rfl, hgw, hbest⟩ := hrel
    have hwk := HW.out.kept hgw (by simp) (by simp)
    have hbw : Below w0.heap.size w0 wr := HB0.out.grown hgw (HB0.out.size) (fun k hk => by cases hk)
    obtain ⟨_, f1, f2, f3⟩ := hwk
    have hpl' := cell_lt f1
    have hql' := f3.lt
    by_cases hlt : k < S.G
    · obtain ⟨e1, g1, g2, g3, g4⟩ := HG.out.at_ k hlt
      subst e1
      replace g1 := cell_keep' g1 hbw
      replace g2 := cell_keep' g2 hbw
      have f4 : wr.cell? ⟨q, k, none⟩ = some (.int .i64 ((J k * S.s k : Nat) : Int)) := f3.cell hlt
      have hjm := HJ.out k hlt
      have hlo := hv.lo k hlt
      have hhi := hv.hi k hlt
      have hM := hsm.2 k hlt
      rcases Nat.lt_or_ge (J k) (S.m k) with hjl | hjl
      · have hle : J k * S.s k + S.s k ≤ S.m k * S.s k := by
          have := Nat.mul_le_mul_right (S.s k) (show J k + 1 ≤ S.m k by omega)
          rw [Nat.succ_mul] at this; exact this
        have HPV : Hid (pv S rb ro k (J k) = .slice (some ⟨rb k, ro k + J k * S.s k, none⟩) (S.s k) (S.s k)) := rfl
        rcases hbest with ⟨rfl, rfl, b3⟩ | ⟨g, b1, rfl, rfl⟩
        · have HN : Hid (BestV S rb ro J (k + 1) (pv S rb ro k (J k)) (.int .i64 (k : Int))) := Or.inr ⟨k, best_first b3 hjl, rfl, rfl⟩
          clear b3 hjm f3 g4
          rw [HPV.out] at HN
          generalize J k * S.s k = o at *
          generalize S.m k * S.s k = M at *
          have e0 : ((o : Int) == (M : Int)) = false := by rw [beq_eq_false_iff_ne]; omega
          have e1 : (o : Int) + (S.s k : Int) ≤ (cap k : Int) := by omega
          have e2 : ¬ cap k = o := by omega
          have e3 : o ≤ 1048576 := by omega
          have e4 : S.s k ≤ 1048576 := by omega
          go_wp2
          go_quiet (fail)
          go_wp2
          go_quiet (fail)
          go_wp2
          go_roundw
          case rel => exact ⟨k + 1, by omega, by go_num, grown_draw (grown_alloc hgw _) _, by rw [show o + S.s k - o = S.s k by omega]; exact HN.out⟩
          case measure => simp [intOf]; omega
        · have hgG : g < S.G := by have := b1.1; omega
          have hB1 := (HG.out.bts hlt hjl).below hbw
          have hB2 := (HG.out.bts hgG b1.2.1).below hbw
          have hcon := fun (ob : Obj) d => bcompare_calls (w := (wr.alloc ob).drewN d) (ca := S.s k) (cb := S.s g) (hB1.below (below_drewN ((Below.refl _ _).alloc (Nat.le_refl _) _) d)) (hB2.below (below_drewN ((Below.refl _ _).alloc (Nat.le_refl _) _) d)) (fun e => by cases e) (fun e => by cases e)
          clear hB1 hB2
          have HPVg : Hid (pv S rb ro g (J g) = .slice (some ⟨rb g, ro g + J g * S.s g, none⟩) (S.s g) (S.s g)) := rfl
          have HN1 : Hid (cmp (el S k (J k)) (el S g (J g)) < 0 → BestV S rb ro J (k + 1) (pv S rb ro k (J k)) (.int .i64 (k : Int))) := fun hc => Or.inr ⟨k, best_new b1 hjl hc, rfl, rfl⟩
          have HN2 : Hid (¬ cmp (el S k (J k)) (el S g (J g)) < 0 → BestV S rb ro J (k + 1) (pv S rb ro g (J g)) (.int .i64 (g : Int))) := fun hc => Or.inr ⟨g, best_old hv b1 hlt hjl hc, rfl, rfl⟩
          have hcon' : ∀ ob d, Calls Try.prog 24 #[.slice (some ⟨rb k, ro k + J k * S.s k, none⟩) (S.s k) (S.s k), .slice (some ⟨rb g, ro g + J g * S.s g, none⟩) (S.s g) (S.s g)] ((wr.alloc ob).drewN d) fun e w' => e = .returned (.int .i64 (cmp (el S k (J k)) (el S g (J g)))) ∧ w' = (wr.alloc ob).drewN d := hcon
          clear hcon b1 hjm f3 g4
          rw [HPV.out] at HN1
          rw [HPVg.out] at HN2 ⊢
          generalize cmp (el S k (J k)) (el S g (J g)) = r at *
          generalize J k * S.s k = o at *
          generalize J g * S.s g = og at *
          generalize S.m k * S.s k = M at *
          have e0 : ((o : Int) == (M : Int)) = false := by rw [beq_eq_false_iff_ne]; omega
          have e1 : (o : Int) + (S.s k : Int) ≤ (cap k : Int) := by omega
          have e2 : ¬ cap k = o := by omega
          have e3 : o ≤ 1048576 := by omega
          have e4 : S.s k ≤ 1048576 := by omega
          have e5 : ¬ (g : Int) < 0 := by omega
          by_cases hr : r < 0
          · have HN := HN1.out hr
            clear HN1 HN2
            go_wp2
            go_quiet (fail)
            go_wp2
            go_quiet (fail)
            go_wp2_with fail
            refine (hcon' _ _).mono ?_
            rintro e w2 ⟨rfl, rfl⟩
            clear hcon'
            go_wp2
            go_roundw
            case rel => exact ⟨k + 1, by omega, by go_num, grown_draw (grown_alloc hgw _) _, HN⟩
            case measure => simp [intOf]; omega
          · have HN := HN2.out hr
            clear HN1 HN2
            go_wp2
            go_quiet (fail)
            go_wp2
            go_quiet (fail)
            go_wp2_with fail
            refine (hcon' _ _).mono ?_
            rintro e w2 ⟨rfl, rfl⟩
            clear hcon'
            go_wp2
            go_roundw
            case rel => exact ⟨k + 1, by omega, by go_num, grown_draw (grown_alloc hgw _) _, HN⟩
            case measure => simp [intOf]; omega
      · have hjk : J k = S.m k := by omega
        have HN : Hid (BestV S rb ro J (k + 1) u3 u4) := by
          rcases hbest with ⟨b1, b2, b3⟩ | ⟨g, b1, b2, b3⟩
          · exact Or.inl ⟨b1, b2, fun h hh => by
              rcases Nat.lt_succ_iff_lt_or_eq.1 hh with hl | rfl
              · exact b3 h hl
              · exact hjk⟩
          · exact Or.inr ⟨g, best_skip b1 (by omega), b2, b3⟩
        rw [hjk] at f4
        clear hbest hjl hjk hjm f3
        generalize S.m k * S.s k = M at *
        go_wp2
        go_quiet (fail)
        go_wp2
        go_roundw
        case rel => exact ⟨k + 1, by omega, by go_num, grown_draw (grown_alloc hgw _) _, HN.out⟩
        case measure => simp [intOf]; omega
    · obtain rfl : k = S.G := by omega
      rcases hbest with ⟨rfl, rfl, b3⟩ | ⟨g, b1, rfl, rfl⟩
      · have HP : Hid (NextPost S rb ro p q ga gc J w (.returned (.slice none 0 0)) wr) := ⟨grown_but hgw _, Or.inl ⟨rfl, b3, ⟨hpq, f1, f2, f3⟩⟩⟩
        clear b3 f3
        go_wp2
        go_ret
        exact HP.out
      · have hgG := b1.1
        have hjl := b1.2.1
        have f4 : wr.cell? ⟨q, g, none⟩ = some (.int .i64 ((J g * S.s g : Nat) : Int)) := f3.cell hgG
        have f5 := f3.frozen g
        have hle : J g * S.s g + S.s g ≤ S.m g * S.s g := by
          have := Nat.mul_le_mul_right (S.s g) (show J g + 1 ≤ S.m g by omega)
          rw [Nat.succ_mul] at this; exact this
        have hM := hsm.2 g hgG
        have HPV : Hid (pv S rb ro g (J g) = .slice (some ⟨rb g, ro g + J g * S.s g, none⟩) (S.s g) (S.s g)) := rfl
        have hwk' : WalkIn (wr.setCell ⟨q, g, none⟩ (.int .i64 ((J g * S.s g : Nat) + (S.s g : Int)))) p q ga S.G gc S.s (bump J g) := by
          refine ⟨hpq, ?_, ?_, ?_⟩
          · exact (World.cell?_of_block (a := ⟨p, 0, none⟩) (Below.heap_setCell _ _ _ _ (by show p ≠ q; exact hpq))).trans f1
          · exact (World.cell?_of_block (a := ⟨p, 1, none⟩) (Below.heap_setCell _ _ _ _ (by show p ≠ q; exact hpq))).trans f2
          · refine (f3.set g _).congr (fun j _ => ?_)
            unfold bump
            by_cases e : j = g
            · subst e
              rw [if_pos rfl, if_pos rfl, Nat.succ_mul, Int.natCast_add]
            · rw [if_neg e, if_neg e]
        have HP : Hid (NextPost S rb ro p q ga gc J w (.returned (pv S rb ro g (J g))) (wr.setCell ⟨q, g, none⟩ (.int .i64 ((J g * S.s g : Nat) + (S.s g : Int))))) := ⟨grown_set (grown_but hgw _) (Or.inr rfl) _, Or.inr ⟨g, b1, rfl, hwk'⟩⟩
        rw [HPV.out] at HP
        rw [HPV.out]
        clear b1 f3 hwk'
        generalize J g * S.s g = o at *
        generalize S.m g * S.s g = M at *
        have e5 : (0 : Int) ≤ (g : Int) := by omega
        have e6 : (g : Int) < (S.G : Int) := by omega
        have e3 : o ≤ 1048576 := by omega
        have e4 : S.s g ≤ 1048576 := by omega
        go_wp2
        go_ret
        exact HP.out
end Go.Proofs.Qxb6627355a
