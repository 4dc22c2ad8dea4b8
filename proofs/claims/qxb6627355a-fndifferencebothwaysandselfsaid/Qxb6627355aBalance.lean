/-
  The counts balance, both ways; a set against itself: plain laws.
-/
import Derived.Test.Qxb6627355aAdded
namespace Go.Proofs.Qxb6627355a

theorem sumTo_add (f g : Nat → Nat) (n : Nat) : sumTo (fun i => f i + g i) n = sumTo f n + sumTo g n := by
  induction n with
  | zero => rfl
  | succ n ih => simp only [sumTo, ih]; omega
theorem sumTo_zero {f : Nat → Nat} {n : Nat} (h : ∀ i, i < n → f i = 0) : sumTo f n = 0 := by
  rw [sumTo_congr (g := fun _ => 0) h]; exact sum0 n
theorem sumTo_comm (f : Nat → Nat → Nat) (n m : Nat) : sumTo (fun a => sumTo (fun b => f a b) m) n = sumTo (fun b => sumTo (fun a => f a b) n) m := by
  induction n with
  | zero => simp only [sumTo]; exact (sum0 m).symm
  | succ n ih =>
    simp only [sumTo, ih]
    rw [← sumTo_add]
theorem sumTo_single {f : Nat → Nat} {n k : Nat} (hk : k < n) (h : ∀ i, i < n → i ≠ k → f i = 0) : sumTo f n = f k := by
  induction n with
  | zero => omega
  | succ n ih =>
    simp only [sumTo]
    rcases Nat.lt_or_ge k n with hl | hl
    · rw [ih hl (fun i hi hne => h i (by omega) hne), h n (by omega) (by omega)]; omega
    · have e : k = n := by omega
      subst e
      rw [sumTo_zero (fun i hi => h i (by omega) (by omega))]; omega

/-- One where the two are the same. -/
def eqI (p q : List Int) : Nat := if p = q then 1 else 0
theorem has_sum {T : St} (hv : Valid T) (p : List Int) : (if hasB T p then 1 else 0) = sumTo (fun h => sumTo (fun y => eqI p (el T h y)) (T.m h)) T.G := by
  cases hh : hasB T p with
  | true =>
    obtain ⟨h, y, h1, h2, e⟩ := hasB_iff.1 hh
    rw [sumTo_single h1 (fun i hi hne => sumTo_zero (fun z hz => ?_)), sumTo_single h2 (fun z hz hne => ?_)]
    · simp [eqI, e]
    · unfold eqI
      rw [if_neg (fun e' => hne (el_inj hv h1 hz h1 h2 (by rw [e, ← e'])).2)]
    · unfold eqI
      rw [if_neg (fun e' => hne (el_inj hv hi hz h1 h2 (by rw [e, ← e'])).1)]
  | false =>
    refine (sumTo_zero (fun h hh' => sumTo_zero (fun y hy => ?_))).symm
    unfold eqI
    rw [if_neg (fun e => ?_)]
    have := hasB_iff.2 ⟨h, y, hh', hy, e.symm⟩
    rw [hh] at this; cases this
def cnth (F T : St) (g : Nat) (j : Nat) : Nat := sumTo (fun x => if hasB T (el F g x) then 1 else 0) j
theorem cnt_sum (F T : St) (g j : Nat) : cntn F T g j + cnth F T g j = j := by
  induction j with
  | zero => rfl
  | succ j ih =>
    simp only [cntn, cnth, sumTo] at *
    cases hasB T (el F g j) <;> simp <;> omega
theorem common {F T : St} (hF : Valid F) (hT : Valid T) : sumTo (fun g => cnth F T g (F.m g)) F.G = sumTo (fun h => cnth T F h (T.m h)) T.G := by
  have h1 : sumTo (fun g => cnth F T g (F.m g)) F.G = sumTo (fun g => sumTo (fun h => sumTo (fun x => sumTo (fun y => eqI (el F g x) (el T h y)) (T.m h)) (F.m g)) T.G) F.G := by
    refine sumTo_congr fun g _ => ?_
    rw [← sumTo_comm]
    exact sumTo_congr fun x _ => has_sum hT _
  have h2 : sumTo (fun h => cnth T F h (T.m h)) T.G = sumTo (fun h => sumTo (fun g => sumTo (fun x => sumTo (fun y => eqI (el F g x) (el T h y)) (T.m h)) (F.m g)) F.G) T.G := by
    refine sumTo_congr fun h _ => ?_
    have : ∀ y, (if hasB F (el T h y) then 1 else 0) = sumTo (fun g => sumTo (fun x => eqI (el F g x) (el T h y)) (F.m g)) F.G := by
      intro y
      rw [has_sum hF]
      refine sumTo_congr fun g _ => sumTo_congr fun x _ => ?_
      unfold eqI
      by_cases e : el T h y = el F g x
      · rw [if_pos e, if_pos e.symm]
      · rw [if_neg e, if_neg (fun e' => e e'.symm)]
    unfold cnth
    rw [sumTo_congr (fun y _ => this y), sumTo_comm]
    refine sumTo_congr fun g _ => ?_
    exact sumTo_comm (fun y x => eqI (el F g x) (el T h y)) (T.m h) (F.m g)
  rw [h1, h2]
  exact sumTo_comm (fun g h => sumTo (fun x => sumTo (fun y => eqI (el F g x) (el T h y)) (T.m h)) (F.m g)) F.G T.G
theorem tot_split (F T : St) : tot F = sumTo (fun g => cntn F T g (F.m g)) F.G + sumTo (fun g => cnth F T g (F.m g)) F.G := by
  rw [← sumTo_add]
  exact sumTo_congr fun g _ => (cnt_sum F T g (F.m g)).symm
/-- The counts balance. -/
theorem balance {F T : St} (hF : Valid F) (hT : Valid T) : tot F + (remL T F (tot T)).length = tot T + (remL F T (tot F)).length := by
  rw [rem_all hT, rem_all hF]
  have h1 := tot_split F T
  have h2 := tot_split T F
  have h3 := common hF hT
  omega
/-- Against itself. -/
theorem cntn_self {F : St} {g : Nat} (hg : g < F.G) {j : Nat} (hj : j ≤ F.m g) : cntn F F g j = 0 := by
  induction j with
  | zero => rfl
  | succ j ih =>
    have : hasB F (el F g j) = true := hasB_iff.2 ⟨g, j, hg, hj, rfl⟩
    simp [cntn, this, ih (by omega)]
theorem rem_self {F : St} (hv : Valid F) : (remL F F (tot F)).length = 0 := by
  rw [rem_all hv]
  exact sumTo_zero fun g hg => cntn_self hg (Nat.le_refl _)
theorem Gath.self {F : St} {LS : Nat → List Int} (hg : Gath F F LS) (s : Nat) : (LS s).length = 0 := by
  by_cases hs : ∃ h, h < F.G ∧ F.s h = s
  · obtain ⟨h, hh, rfl⟩ := hs
    have := hg.len hh
    unfold lenL at this
    rw [this, cntn_self hh (Nat.le_refl _), Nat.zero_mul]
  · rw [hg.2 s (fun h hh e => hs ⟨h, hh, e⟩)]; rfl
theorem kk_none {L : Nat → Nat} (h : ∀ s, L s = 0) (i : Nat) : kk L i = 0 := by
  induction i with
  | zero => rfl
  | succ i ih => simp [kk, ih, h i]
end Go.Proofs.Qxb6627355a
