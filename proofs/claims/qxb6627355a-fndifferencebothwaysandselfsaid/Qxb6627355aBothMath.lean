/-
  What Difference both ways has in common: plain laws.
-/
import Derived.Test.Qxb6627355aLawMath
namespace Go.Proofs.Qxb6627355a

/-- How many of the first j of group g the other set does not hold. -/
def cntn (F T : St) (g : Nat) : Nat → Nat
  | 0 => 0
  | j + 1 => cntn F T g j + (if hasB T (el F g j) then 0 else 1)
theorem cntn_le (F T : St) (g j : Nat) : cntn F T g j ≤ j := by
  induction j with
  | zero => exact Nat.le_refl _
  | succ j ih => simp only [cntn]; split <;> omega
theorem cntn_mono (F T : St) (g : Nat) {i j : Nat} (h : i ≤ j) : cntn F T g i ≤ cntn F T g j := by
  induction j with
  | zero => have : i = 0 := by omega
            subst this; exact Nat.le_refl _
  | succ j ih =>
    rcases Nat.lt_or_ge i (j + 1) with hl | hl
    · have := ih (by omega); simp only [cntn]; omega
    · have : i = j + 1 := by omega
      subst this; exact Nat.le_refl _
theorem cntn_lt {F T : St} {g x j : Nat} (h : x < j) (hn : hasB T (el F g x) = false) : cntn F T g x < cntn F T g j := by
  have h1 := cntn_mono F T g (show x + 1 ≤ j from h)
  simp only [cntn, hn] at h1
  simp at h1
  omega
theorem cntn_surj {F T : St} {g j M : Nat} (h : j < cntn F T g M) : ∃ x, x < M ∧ hasB T (el F g x) = false ∧ cntn F T g x = j := by
  induction M with
  | zero => simp [cntn] at h
  | succ M ih =>
    rcases Nat.lt_or_ge j (cntn F T g M) with hl | hl
    · obtain ⟨x, h1, h2⟩ := ih hl
      exact ⟨x, by omega, h2⟩
    · simp only [cntn] at h
      cases hh : hasB T (el F g M) with
      | true => rw [hh] at h; simp at h; omega
      | false => rw [hh] at h; simp at h; exact ⟨M, by omega, hh, by omega⟩
theorem addL_cntn (T F : St) (h j : Nat) : (addL T F h j).length = cntn T F h j * T.s h := by
  induction j with
  | zero => simp [addL, cntn]
  | succ j ih =>
    simp only [addL, cntn, List.length_append, ih]
    cases hh : hasB F (el T h j) with
    | true => simp
    | false => simp [el_length, Nat.add_mul]
theorem addL_prefix (T F : St) (h : Nat) {i j : Nat} (hij : i ≤ j) : ∃ t, addL T F h j = addL T F h i ++ t := by
  induction j with
  | zero => have : i = 0 := by omega
            subst this; exact ⟨[], by simp⟩
  | succ j ih =>
    rcases Nat.lt_or_ge i (j + 1) with hl | hl
    · obtain ⟨t, ht⟩ := ih (by omega)
      exact ⟨t ++ (if hasB F (el T h j) then [] else el T h j), by simp only [addL]; rw [ht, List.append_assoc]⟩
    · have : i = j + 1 := by omega
      subst this; exact ⟨[], by simp⟩
/-- Each element that is added stands in its place. -/
theorem addL_chunk {T F : St} {h x M : Nat} (hx : x < M) (hn : hasB F (el T h x) = false) : ls (T.s h) (fun i => (addL T F h M)[cntn T F h x * T.s h + i]?.getD 0) = el T h x := by
  obtain ⟨t, ht⟩ := addL_prefix T F h (show x + 1 ≤ M from hx)
  have h1 : addL T F h (x + 1) = addL T F h x ++ el T h x := by simp [addL, hn]
  rw [ht, h1, List.append_assoc, ← addL_cntn]
  have : el T h x = ls (T.s h) (fun i => (el T h x)[i]?.getD 0) := by
    have := ls_list (el T h x)
    rw [el_length] at this
    exact this.symm
  rw [this]
  refine ls_congr fun i hi => ?_
  rw [List.getElem?_append_right (by omega), Nat.add_sub_cancel_left, List.getElem?_append_left (by rw [ls_length]; exact hi)]
  rw [← this]

/-! ### Cuts -/
theorem best_exists {S : St} (hv : Valid S) {I : Nat → Nat} (hI : ∀ g, g < S.G → I g ≤ S.m g) : ∀ k, k ≤ S.G → (∀ h, h < k → I h = S.m h) ∨ ∃ g, Best S I k g := by
  intro k
  induction k with
  | zero => intro _; exact Or.inl fun h hh => absurd hh (Nat.not_lt_zero _)
  | succ k ih =>
    intro hk
    rcases Nat.lt_or_ge (I k) (S.m k) with hl | hl
    · rcases ih (by omega) with h0 | ⟨g, hg⟩
      · exact Or.inr ⟨k, best_first h0 hl⟩
      · by_cases hc : cmp (el S k (I k)) (el S g (I g)) < 0
        · exact Or.inr ⟨k, best_new hg hl hc⟩
        · exact Or.inr ⟨g, best_old hv hg (by omega) hl hc⟩
    · have e : I k = S.m k := by have := hI k (by omega); omega
      rcases ih (by omega) with h0 | ⟨g, hg⟩
      · refine Or.inl fun h hh => ?_
        rcases Nat.lt_succ_iff_lt_or_eq.1 hh with h1 | rfl
        · exact h0 h h1
        · exact e
      · exact Or.inr ⟨g, best_skip hg (by omega)⟩

theorem sumTo_upd {f f' : Nat → Nat} {n g d : Nat} (hg : g < n) (h1 : f' g = f g + d) (h2 : ∀ i, i ≠ g → f' i = f i) : sumTo f' n = sumTo f n + d := by
  induction n with
  | zero => omega
  | succ n ih =>
    simp only [sumTo]
    rcases Nat.lt_or_ge g n with hl | hl
    · rw [ih hl, h2 n (by omega)]; omega
    · have e : g = n := by omega
      subst e
      rw [h1, sumTo_congr (g := f) (fun i hi => h2 i (by omega))]
      omega

/-- The ranks below a cut: as many removed as the cut holds elements that the other set lacks. -/
theorem cut_count {F T : St} (hv : Valid F) {J : Nat → Nat} (hJ : ∀ g, g < F.G → J g ≤ F.m g) (hLo : Lo F J F J) :
    ∀ n (I : Nat → Nat), (∀ g, g < F.G → I g ≤ J g) → Lo F I F I → sumTo J F.G = sumTo I F.G + n → (remL F T (sumTo I F.G)).length = sumTo (fun g => cntn F T g (I g)) F.G →
      (remL F T (sumTo J F.G)).length = sumTo (fun g => cntn F T g (J g)) F.G := by
  intro n
  induction n with
  | zero =>
    intro I hI _ hs hp
    have he : ∀ g, g < F.G → I g = J g := by
      intro g hg
      rcases Nat.lt_or_ge (I g) (J g) with hl | hl
      · have := sumTo_lt hI hg hl; omega
      · have := hI g hg; omega
    rw [← sumTo_congr he, hp]
    exact sumTo_congr fun g hg => by rw [he g hg]
  | succ n ih =>
    intro I hI hL hs hp
    have hIm : ∀ g, g < F.G → I g ≤ F.m g := fun g hg => Nat.le_trans (hI g hg) (hJ g hg)
    have hex : ∃ h, h < F.G ∧ I h < J h := by
      apply Classical.byContradiction
      intro hno
      have := sumTo_congr (f := I) (g := J) (n := F.G) (fun g hg => by
        have h1 := hI g hg
        rcases Nat.lt_or_ge (I g) (J g) with hl | hl
        · exact absurd ⟨g, hg, hl⟩ hno
        · omega)
      omega
    obtain ⟨h, hh, hlt⟩ := hex
    rcases best_exists hv hIm F.G (Nat.le_refl _) with h0 | ⟨g, hb⟩
    · have := h0 h hh; have := hJ h hh; omega
    · have hgJ : I g < J g := by
        rcases Nat.lt_or_ge (I g) (J g) with hl | hl
        · exact hl
        · exfalso
          have h1 := hLo h (I h) g (I g) hh hlt hb.1 hl hb.2.1
          rcases hb.2.2 h hh (by have := hJ h hh; omega) with e | h2
          · subst e; omega
          · exact cmp_asymm h1 h2
      have hrk := rk_cur hv hb hIm hL
      have hrem := remB_at (T := T) hv hb.1 hb.2.1
      rw [hrk] at hrem
      refine ih (bump I g) (fun k hk => ?_) (hL.self hv hb) (by rw [sumTo_bump' hb.1]; omega) ?_
      · unfold bump
        by_cases e : k = g
        · subst e; rw [if_pos rfl]; exact hgJ
        · rw [if_neg e]; exact hI k hk
      · rw [sumTo_bump' hb.1, remL_succ, hrem, List.length_append, hp]
        refine (sumTo_upd (f := fun k => cntn F T k (I k)) (g := g) (d := if hasB T (el F g (I g)) then 0 else 1) hb.1 ?_ ?_ |>.trans ?_).symm
        · simp [bump, cntn]
        · intro i hi; simp [bump, hi]
        · cases hasB T (el F g (I g)) <;> simp

theorem cut_all {F T : St} (hv : Valid F) {J : Nat → Nat} (hJ : ∀ g, g < F.G → J g ≤ F.m g) (hLo : Lo F J F J) : (remL F T (sumTo J F.G)).length = sumTo (fun g => cntn F T g (J g)) F.G := by
  refine cut_count hv hJ hLo (sumTo J F.G) (fun _ => 0) (fun _ _ => Nat.zero_le _) (fun _ _ _ _ _ h => absurd h (Nat.not_lt_zero _)) ?_ ?_
  · rw [sum0, Nat.zero_add]
  · rw [sum0]
    show 0 = sumTo (fun g => cntn F T g 0) F.G
    simp only [cntn]
    exact (sum0 _).symm
theorem rem_rank {F T : St} (hv : Valid F) (p : List Int) : (remL F T (rk F p)).length = sumTo (fun g => cntn F T g (blw (el F g) p (F.m g))) F.G := by
  refine cut_all hv (J := fun g => blw (el F g) p (F.m g)) (fun g _ => blw_le _ _ _) ?_
  intro g x h y hg hx hh hy hym
  replace hx : x < blw (el F g) p (F.m g) := hx
  replace hy : blw (el F h) p (F.m h) ≤ y := hy
  have h1 := (blw_spec (p := p) (hv.ord g hg) (Nat.lt_of_lt_of_le hx (blw_le _ _ _))).2 hx
  have h2 : ¬ cmp (el F h y) p < 0 := fun hc => by
    have := (blw_spec (p := p) (hv.ord h hh) hym).1 hc; omega
  exact cmp_lt_le h1 h2
theorem rem_all {F T : St} (hv : Valid F) : (remL F T (tot F)).length = sumTo (fun g => cntn F T g (F.m g)) F.G :=
  cut_all hv (J := F.m) (fun _ _ => Nat.le_refl _) (fun g x h y _ _ _ h1 h2 => by omega)

/-- Every rank is some element's. -/
theorem rk_surj {S : St} (hv : Valid S) {r : Nat} (hr : r < tot S) : ∃ g x, g < S.G ∧ x < S.m g ∧ rk S (el S g x) = r := by
  have key : ∀ n, n ≤ tot S → ∃ I : Nat → Nat, (∀ g, g < S.G → I g ≤ S.m g) ∧ Lo S I S I ∧ sumTo I S.G = n := by
    intro n
    induction n with
    | zero => intro _; exact ⟨fun _ => 0, fun _ _ => Nat.zero_le _, fun _ _ _ _ _ h => absurd h (Nat.not_lt_zero _), sum0 _⟩
    | succ n ih =>
      intro hn
      obtain ⟨I, h1, h2, h3⟩ := ih (by omega)
      rcases best_exists hv h1 S.G (Nat.le_refl _) with h0 | ⟨g, hb⟩
      · have := sumTo_congr (f := I) (g := S.m) (n := S.G) h0
        unfold tot at hn; omega
      · exact ⟨bump I g, bump_le hb h1, h2.self hv hb, by rw [sumTo_bump' hb.1, h3]⟩
  obtain ⟨I, h1, h2, h3⟩ := key r (by omega)
  rcases best_exists hv h1 S.G (Nat.le_refl _) with h0 | ⟨g, hb⟩
  · have := sumTo_congr (f := I) (g := S.m) (n := S.G) h0
    unfold tot at hr; omega
  · exact ⟨g, I g, hb.1, hb.2.1, by rw [rk_cur hv hb h1 h2, h3]⟩
end Go.Proofs.Qxb6627355a
