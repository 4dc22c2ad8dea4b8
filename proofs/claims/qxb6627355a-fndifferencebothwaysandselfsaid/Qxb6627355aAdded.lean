/-
  The set that Difference adds, as a set: plain laws.
-/
import Derived.Test.Qxb6627355aBothMath
namespace Go.Proofs.Qxb6627355a

def lenL (LS : Nat → List Int) : Nat → Nat := fun s => (LS s).length
/-- The set that is added. -/
def addS (LS : Nat → List Int) : St := ⟨kk (lenL LS) 33, nth (lenL LS), fun k => lenL LS (nth (lenL LS) k) / nth (lenL LS) k, fun k j => (LS (nth (lenL LS) k))[j]?.getD 0⟩
/-- LS is what Difference(F, T) gathers. -/
def Gath (F T : St) (LS : Nat → List Int) : Prop := (∀ h, h < T.G → LS (T.s h) = addL T F h (T.m h)) ∧ (∀ s, (∀ h, h < T.G → T.s h ≠ s) → LS s = [])

section
variable {F T : St} {LS : Nat → List Int}
theorem Gath.grp (hg : Gath F T LS) {s : Nat} (hs : 0 < lenL LS s) : ∃ h, h < T.G ∧ T.s h = s := by
  apply Classical.byContradiction
  intro hno
  have := hg.2 s (fun h hh e => hno ⟨h, hh, e⟩)
  simp [lenL, this] at hs
theorem Gath.len (hg : Gath F T LS) {h : Nat} (hh : h < T.G) : lenL LS (T.s h) = cntn T F h (T.m h) * T.s h := by
  unfold lenL; rw [hg.1 h hh, addL_cntn]
/-- Group k of what is added is a group of T. -/
theorem Gath.at_ (hv : Valid T) (hg : Gath F T LS) {k : Nat} (hk : k < (addS LS).G) : ∃ h, h < T.G ∧ T.s h = nth (lenL LS) k ∧ (addS LS).m k = cntn T F h (T.m h) ∧ 0 < cntn T F h (T.m h) := by
  obtain ⟨h1, h2, h3⟩ := nth_spec (Nat.le_refl _) hk
  obtain ⟨h, hh, e⟩ := hg.grp h2
  have hl := hg.len hh
  have hs := hv.lo h hh
  rw [e] at hl hs
  refine ⟨h, hh, e, ?_, ?_⟩
  · show lenL LS (nth (lenL LS) k) / nth (lenL LS) k = _
    rw [hl]; exact Nat.mul_div_cancel _ hs
  · rcases Nat.eq_zero_or_pos (cntn T F h (T.m h)) with h0 | h0
    · rw [h0, Nat.zero_mul] at hl; omega
    · exact h0
theorem Gath.el_ (hg : Gath F T LS) {k h x : Nat} (hh : h < T.G) (e : T.s h = nth (lenL LS) k) (hx : x < T.m h) (hn : hasB F (el T h x) = false) : el (addS LS) k (cntn T F h x) = el T h x := by
  have := addL_chunk hx hn
  rw [← hg.1 h hh] at this
  rw [← this]
  show ls (nth (lenL LS) k) (fun i => (LS (nth (lenL LS) k))[cntn T F h x * nth (lenL LS) k + i]?.getD 0) = _
  rw [← e]
theorem Gath.el_inv (hg : Gath F T LS) {k h j : Nat} (hh : h < T.G) (e : T.s h = nth (lenL LS) k) (hj : j < cntn T F h (T.m h)) : ∃ x, x < T.m h ∧ hasB F (el T h x) = false ∧ cntn T F h x = j ∧ el (addS LS) k j = el T h x := by
  obtain ⟨x, h1, h2, h3⟩ := cntn_surj hj
  exact ⟨x, h1, h2, h3, by rw [← h3]; exact hg.el_ hh e h1 h2⟩

theorem Gath.valid (hv : Valid T) (hg : Gath F T LS) : Valid (addS LS) := by
  refine ⟨fun k hk => ?_, fun k hk => ?_, fun k hk => ?_, fun k k' hkk hk => ?_, fun k hk => ?_⟩
  · obtain ⟨h, hh, e, _⟩ := hg.at_ hv hk
    have := hv.lo h hh
    show 1 ≤ nth (lenL LS) k
    omega
  · obtain ⟨h, hh, e, _⟩ := hg.at_ hv hk
    have := hv.hi h hh
    show nth (lenL LS) k ≤ 32
    omega
  · obtain ⟨h, hh, e, em, hp⟩ := hg.at_ hv hk
    rw [em]; exact hp
  · show nth (lenL LS) k < nth (lenL LS) k'
    obtain ⟨_, _, h3⟩ := nth_spec (Nat.le_refl _) (show k < kk (lenL LS) 33 from Nat.lt_trans hkk hk)
    obtain ⟨_, _, h3'⟩ := nth_spec (Nat.le_refl _) (show k' < kk (lenL LS) 33 from hk)
    rcases Nat.lt_or_ge (nth (lenL LS) k) (nth (lenL LS) k') with hl | hl
    · exact hl
    · have := kk_mono (lenL LS) hl; omega
  · obtain ⟨h, hh, e, em, hp⟩ := hg.at_ hv hk
    intro i j hij hj
    rw [em] at hj
    obtain ⟨x, hx, _, cx, ex⟩ := hg.el_inv hh e (show i < cntn T F h (T.m h) by omega)
    obtain ⟨y, hy, _, cy, ey⟩ := hg.el_inv hh e hj
    rw [ex, ey]
    refine hv.ord h hh x y ?_ hy
    rcases Nat.lt_or_ge x y with hl | hl
    · exact hl
    · have := cntn_mono T F h hl; omega

/-- A sum over the places is a sum over the sizes. -/
theorem sum_nth (L : Nat → Nat) (f : Nat → Nat) : ∀ i, i ≤ 33 → sumTo (fun k => f (nth L k)) (kk L i) = sumTo (fun s => if 0 < L s then f s else 0) i := by
  intro i
  induction i with
  | zero => intro _; rfl
  | succ i ih =>
    intro hi
    simp only [kk, sumTo]
    by_cases h : 0 < L i
    · rw [if_pos h, if_pos h]
      simp only [sumTo]
      rw [ih (by omega), nth_kk (by omega) h]
    · rw [if_neg h, if_neg h, Nat.add_zero, Nat.add_zero]
      exact ih (by omega)
theorem bd_free (hv : Valid T) {i x : Nat} (hi : i < T.G) (h1 : T.s i + 1 ≤ x) (h2 : x < bd T (i + 1)) : ∀ h, h < T.G → T.s h ≠ x := by
  intro h hh e
  rcases Nat.lt_or_ge i h with hl' | hl'
  · unfold bd at h2
    rw [if_pos (by omega)] at h2
    rcases Nat.lt_or_ge (i + 1) h with h3 | h3
    · have := hv.asc (i + 1) h h3 hh; omega
    · have : h = i + 1 := by omega
      subst this; omega
  · rcases Nat.lt_or_ge h i with h3 | h3
    · have := hv.asc h i h3 hi; omega
    · have : h = i := by omega
      subst this; omega
/-- A sum over the sizes is a sum over the groups. -/
theorem sum_groups (hv : Valid T) {f : Nat → Nat} (hf : ∀ s, (∀ h, h < T.G → T.s h ≠ s) → f s = 0) : ∀ i, i ≤ T.G → sumTo f (bd T i) = sumTo (fun h => f (T.s h)) i := by
  intro i
  induction i with
  | zero =>
    intro _
    rw [sumTo_same (Nat.zero_le _) (fun x _ h2 => hf x (fun h hh e => ?_))]
    · rfl
    · unfold bd at h2
      rw [if_pos (by omega)] at h2
      rcases Nat.eq_zero_or_pos h with rfl | h3
      · omega
      · have := hv.asc 0 h h3 hh; omega
  | succ i ih =>
    intro hi
    have hle : T.s i + 1 ≤ bd T (i + 1) := by
      unfold bd
      split
      · rename_i h; have := hv.asc i (i + 1) (by omega) h; omega
      · have := hv.hi i hi; omega
    rw [sumTo_same hle (fun x h1 h2 => hf x (bd_free hv hi h1 h2))]
    have hb : bd T i = T.s i := by simp [bd, show i < T.G from hi]
    have := ih (by omega)
    rw [hb] at this
    simp only [sumTo, this]
theorem sum_sizes (hv : Valid T) {f : Nat → Nat} (hf : ∀ s, (∀ h, h < T.G → T.s h ≠ s) → f s = 0) : sumTo f 33 = sumTo (fun h => f (T.s h)) T.G := by
  have := sum_groups hv hf T.G (Nat.le_refl _)
  rw [show bd T T.G = 33 by simp [bd]] at this
  exact this

theorem Gath.tot_sizes : tot (addS LS) = sumTo (fun i => (LS i).length / i) 33 := by
  have := sum_nth (lenL LS) (fun s => lenL LS s / s) 33 (Nat.le_refl _)
  refine this.trans (sumTo_congr fun s _ => ?_)
  by_cases h : 0 < lenL LS s
  · rw [if_pos h]; rfl
  · rw [if_neg h]
    have : (LS s).length = 0 := by unfold lenL at h; omega
    rw [this, Nat.zero_div]
theorem Gath.tot_groups (hv : Valid T) (hg : Gath F T LS) : tot (addS LS) = sumTo (fun h => cntn T F h (T.m h)) T.G := by
  rw [Gath.tot_sizes, sum_sizes hv (fun s hs => by rw [hg.2 s hs]; exact Nat.zero_div _)]
  refine sumTo_congr fun h hh => ?_
  have := hg.len hh
  unfold lenL at this
  rw [this]
  exact Nat.mul_div_cancel _ (hv.lo h hh)

/-- The last place below 'n' where 'f' is 's'. -/
def lastAt (f : Nat → Nat) (s : Nat) : Nat → Nat
  | 0 => 0
  | n + 1 => if f n = s then n else lastAt f s n
theorem lastAt_eq (f : Nat → Nat) (h n : Nat) (hh : h < n) (hf : ∀ g, h < g → g < n → f g ≠ f h) : lastAt f (f h) n = h := by
  induction n with
  | zero => omega
  | succ n ih =>
    unfold lastAt
    by_cases e : h = n
    · subst e; rw [if_pos rfl]
    · rw [if_neg (hf n (by omega) (by omega))]
      exact ih (by omega) fun g h1 h2 => hf g h1 (by omega)
/-- The group of a size. -/
def grpOf (T : St) (s : Nat) : Nat := lastAt T.s s T.G
theorem grp_s (hv : Valid T) {h : Nat} (hh : h < T.G) : grpOf T (T.s h) = h :=
  lastAt_eq T.s h T.G hh fun g h1 h2 => by have := hv.asc _ _ h1 h2; omega

theorem Gath.blw_ (hv : Valid T) (hg : Gath F T LS) {k h : Nat} (hk : k < (addS LS).G) (hh : h < T.G) (e : T.s h = nth (lenL LS) k) (em : (addS LS).m k = cntn T F h (T.m h)) (p : List Int) :
    blw (el (addS LS) k) p ((addS LS).m k) = cntn T F h (blw (el T h) p (T.m h)) := by
  refine blw_eq ((hg.valid hv).ord k hk) ?_ (fun j hj => ?_) (fun hl => ?_)
  · rw [em]; exact cntn_mono T F h (blw_le _ _ _)
  · obtain ⟨x, hx, _, cx, ex⟩ := hg.el_inv hh e (Nat.lt_of_lt_of_le hj (cntn_mono T F h (blw_le (el T h) p (T.m h))))
    rw [ex]
    refine (blw_spec (hv.ord h hh) hx).2 ?_
    rcases Nat.lt_or_ge x (blw (el T h) p (T.m h)) with hl | hl
    · exact hl
    · have := cntn_mono T F h hl; omega
  · rw [em] at hl
    obtain ⟨x, hx, hn, cx, ex⟩ := hg.el_inv hh e hl
    rw [ex]
    intro hc
    have h1 := (blw_spec (hv.ord h hh) hx).1 hc
    have := cntn_lt h1 hn
    omega
/-- Ranks in what is added. -/
theorem Gath.rank (hv : Valid T) (hg : Gath F T LS) (p : List Int) : rk (addS LS) p = (remL T F (rk T p)).length := by
  rw [rem_rank hv p]
  have h1 : rk (addS LS) p = sumTo (fun k => (fun s => cntn T F (grpOf T s) (blw (el T (grpOf T s)) p (T.m (grpOf T s)))) (nth (lenL LS) k)) (kk (lenL LS) 33) := by
    refine sumTo_congr fun k hk => ?_
    obtain ⟨h, hh, e, em, _⟩ := hg.at_ hv hk
    rw [hg.blw_ hv hk hh e em p]
    simp only [← e, grp_s hv hh]
  rw [h1, sum_nth (lenL LS) (fun s => cntn T F (grpOf T s) (blw (el T (grpOf T s)) p (T.m (grpOf T s)))) 33 (Nat.le_refl _), sum_sizes hv (fun s hs => by rw [if_neg]; simp [lenL, hg.2 s hs])]
  refine sumTo_congr fun h hh => ?_
  rw [grp_s hv hh]
  by_cases hl : 0 < lenL LS (T.s h)
  · rw [if_pos hl]
  · rw [if_neg hl]
    have h2 := hg.len hh
    have h3 := hv.lo h hh
    have h4 : cntn T F h (T.m h) = 0 := by
      rcases Nat.eq_zero_or_pos (cntn T F h (T.m h)) with h0 | h0
      · exact h0
      · have := Nat.mul_pos h0 h3; omega
    have h5 := cntn_mono T F h (blw_le (el T h) p (T.m h))
    omega
/-- What is added, by place: element k of it stands in T at the k-th removed rank of T against F. -/
theorem Gath.pick (hv : Valid T) (hg : Gath F T LS) {k : Nat} (hk : k < tot (addS LS)) : ∃ g j h x, g < (addS LS).G ∧ j < (addS LS).m g ∧ h < T.G ∧ x < T.m h ∧ el (addS LS) g j = el T h x ∧ (addS LS).s g = T.s h ∧ rk (addS LS) (el (addS LS) g j) = k ∧ (remL T F (tot T))[k]? = some (rk T (el T h x)) := by
  obtain ⟨g, j, hg1, hj, hrk⟩ := rk_surj (hg.valid hv) hk
  obtain ⟨h, hh, e, em, _⟩ := hg.at_ hv hg1
  rw [em] at hj
  obtain ⟨x, hx, hn, cx, ex⟩ := hg.el_inv hh e hj
  refine ⟨g, j, h, x, hg1, by rw [em]; exact hj, hh, hx, ex, e.symm, hrk, ?_⟩
  have h1 := hg.rank hv (el T h x)
  rw [← ex, hrk] at h1
  rw [h1, ex]
  exact remL_get (rk_lt_tot hv hh hx) (by rw [remB_at hv hh hx, hn]; rfl)
theorem Gath.count (hv : Valid T) (hg : Gath F T LS) : tot (addS LS) = (remL T F (tot T)).length := by rw [hg.tot_groups hv, rem_all hv]
end
end Go.Proofs.Qxb6627355a
