import Derived.Test.Qxb6627355aSetOf
namespace Go.Proofs.Qxb6627355a

/-! ### What stands first in a walk -/
/-- x stands for what a walk hands out when J are behind it; J' are behind it then. -/
def Cur (S : St) (rb ro : Nat → Nat) (J : Nat → Nat) (x : Value) (J' : Nat → Nat) : Prop :=
  (x = .slice none 0 0 ∧ (∀ h, h < S.G → J h = S.m h) ∧ J' = J) ∨ ∃ g, Best S J S.G g ∧ x = pv S rb ro g (J g) ∧ J' = bump J g

theorem best_least {S : St} (hv : Valid S) {J : Nat → Nat} {g : Nat} (hb : Best S J S.G g) {h y : Nat} (hh : h < S.G) (h1 : J h ≤ y) (h2 : y < S.m h) : (h = g ∧ y = J g) ∨ cmp (el S g (J g)) (el S h y) < 0 := by
  rcases Nat.lt_or_ge (J h) y with hl | hl
  · have ha := hv.ord h hh (J h) y hl h2
    rcases hb.2.2 h hh (by omega) with rfl | hc
    · exact Or.inr ha
    · exact Or.inr (cmp_trans hc ha)
  · have e : y = J h := by omega
    subst e
    rcases hb.2.2 h hh h2 with rfl | hc
    · exact Or.inl ⟨rfl, rfl⟩
    · exact Or.inr hc
theorem bump_le {S : St} {J : Nat → Nat} {g : Nat} (hb : Best S J S.G g) (hJ : ∀ h, h < S.G → J h ≤ S.m h) : ∀ h, h < S.G → bump J g h ≤ S.m h := by
  intro h hh
  unfold bump
  by_cases e : h = g
  · subst e; rw [if_pos rfl]; exact hb.2.1
  · rw [if_neg e]; exact hJ h hh
theorem le_bump (J : Nat → Nat) (g h : Nat) : J h ≤ bump J g h := by unfold bump; split <;> omega

/-- What lies behind in A comes before what lies ahead in B. -/
def Lo (A : St) (JA : Nat → Nat) (B : St) (JB : Nat → Nat) : Prop := ∀ g x h y, g < A.G → x < JA g → h < B.G → JB h ≤ y → y < B.m h → cmp (el A g x) (el B h y) < 0
theorem Lo.less {A B : St} {JA JB JB' : Nat → Nat} (h : Lo A JA B JB) (hle : ∀ h, JB h ≤ JB' h) : Lo A JA B JB' := fun g x k y h1 h2 h3 h4 h5 => h g x k y h1 h2 h3 (Nat.le_trans (hle k) h4) h5
theorem Lo.more {A B : St} {JA JB : Nat → Nat} {g : Nat} (h : Lo A JA B JB) (hp : ∀ k y, k < B.G → JB k ≤ y → y < B.m k → cmp (el A g (JA g)) (el B k y) < 0) : Lo A (bump JA g) B JB := by
  intro g' x k y h1 h2 h3 h4 h5
  unfold bump at h2
  by_cases e : g' = g
  · subst e
    rw [if_pos rfl] at h2
    rcases Nat.lt_succ_iff_lt_or_eq.1 h2 with hl | rfl
    · exact h g' x k y h1 hl h3 h4 h5
    · exact hp k y h3 h4 h5
  · rw [if_neg e] at h2
    exact h g' x k y h1 h2 h3 h4 h5
theorem Lo.self {S : St} (hv : Valid S) {J : Nat → Nat} {g : Nat} (hb : Best S J S.G g) (h : Lo S J S J) : Lo S (bump J g) S (bump J g) := by
  refine (h.less (le_bump J g)).more (fun k y h1 h2 h3 => ?_)
  rcases best_least hv hb h1 (Nat.le_trans (le_bump J g k) h2) h3 with ⟨rfl, rfl⟩ | hc
  · unfold bump at h2; rw [if_pos rfl] at h2; omega
  · exact hc

theorem rk_cur {S : St} (hv : Valid S) {J : Nat → Nat} {g : Nat} (hb : Best S J S.G g) (hJ : ∀ h, h < S.G → J h ≤ S.m h) (h : Lo S J S J) : rk S (el S g (J g)) = sumTo J S.G := by
  refine sumTo_congr fun k hk => blw_eq (hv.ord k hk) (hJ k hk) (fun x hx => h k x g (J g) hk hx hb.1 (Nat.le_refl _) hb.2.1) (fun hl hc => ?_)
  rcases best_least hv hb hk (Nat.le_refl _) hl with ⟨rfl, _⟩ | hc'
  · exact cmp_lt_irrefl hc
  · exact cmp_asymm hc hc'

/-- The ranks to be removed. -/
def remB (F T : St) (r : Nat) : Bool := (List.range F.G).any fun g => (List.range (F.m g)).any fun x => rk F (el F g x) == r && !hasB T (el F g x)
theorem remB_at {F T : St} (hv : Valid F) {g x : Nat} (hg : g < F.G) (hx : x < F.m g) : remB F T (rk F (el F g x)) = !hasB T (el F g x) := by
  rw [Bool.eq_iff_iff]
  simp only [remB, List.any_eq_true, List.mem_range, Bool.and_eq_true, beq_iff_eq]
  constructor
  · rintro ⟨g', h1, x', h2, h3, h4⟩
    rw [← rk_inj hv h1 h2 hg hx h3]; exact h4
  · intro h
    exact ⟨g, hg, x, hx, rfl, h⟩
def remL (F T : St) (i : Nat) : List Nat := (List.range i).filter (remB F T)
theorem remL_succ (F T : St) (i : Nat) : remL F T (i + 1) = remL F T i ++ (if remB F T i then [i] else []) := by
  unfold remL
  rw [List.range_succ, List.filter_append]
  by_cases h : remB F T i = true
  · simp [h]
  · simp [h]
theorem remL_length (F T : St) (i : Nat) : (remL F T i).length ≤ i := by
  have := List.length_filter_le (remB F T) (List.range i)
  simpa [remL] using this

/-- The bytes to be added of the first j of group h. -/
def addL (T F : St) (h : Nat) : Nat → List Int
  | 0 => []
  | j + 1 => addL T F h j ++ (if hasB F (el T h j) then [] else el T h j)
theorem addL_length (T F : St) (h j : Nat) : (addL T F h j).length ≤ j * T.s h := by
  induction j with
  | zero => exact Nat.zero_le _
  | succ j ih =>
    simp only [addL, List.length_append]
    rw [Nat.succ_mul]
    split
    · simp; omega
    · rw [el_length]; omega

/-- Not held: all of B behind comes before p, all ahead after it. -/
theorem not_has {A B : St} {JA JB : Nat → Nat} {g y : Nat} (hLo : Lo B JB A JA) (hg : g < A.G) (h1 : JA g ≤ y) (h2 : y < A.m g) (hp : ∀ k z, k < B.G → JB k ≤ z → z < B.m k → cmp (el A g y) (el B k z) < 0) : hasB B (el A g y) = false := by
  cases hh : hasB B (el A g y) with
  | false => rfl
  | true =>
    exfalso
    obtain ⟨k, z, hk, hz, e⟩ := hasB_iff.1 hh
    rcases Nat.lt_or_ge z (JB k) with hl | hl
    · have := hLo k z g y hk hl hg h1 h2
      rw [e] at this; exact cmp_lt_irrefl this
    · have := hp k z hk hl hz
      rw [e] at this; exact cmp_lt_irrefl this

structure Inv (F T : St) (JF JT : Nat → Nat) (i : Nat) (R : List Nat) (LS : Nat → List Int) : Prop where
  jf : ∀ g, g < F.G → JF g ≤ F.m g
  jt : ∀ g, g < T.G → JT g ≤ T.m g
  ff : Lo F JF F JF
  tt : Lo T JT T JT
  ft : Lo F JF T JT
  tf : Lo T JT F JF
  ii : i = sumTo JF F.G
  rr : R = remL F T i
  la : ∀ h, h < T.G → LS (T.s h) = addL T F h (JT h)
  ln : ∀ s, (∀ h, h < T.G → T.s h ≠ s) → LS s = []

theorem Inv.start (F T : St) : Inv F T (fun _ => 0) (fun _ => 0) 0 [] (fun _ => []) := by
  refine ⟨fun _ _ => Nat.zero_le _, fun _ _ => Nat.zero_le _, fun _ _ _ _ _ h => absurd h (Nat.not_lt_zero _), fun _ _ _ _ _ h => absurd h (Nat.not_lt_zero _), fun _ _ _ _ _ h => absurd h (Nat.not_lt_zero _), fun _ _ _ _ _ h => absurd h (Nat.not_lt_zero _), ?_, rfl, fun _ _ => rfl, fun _ _ => rfl⟩
  have : ∀ n, sumTo (fun _ => 0) n = 0 := by
    intro n
    induction n with
    | zero => rfl
    | succ n ih => simp [sumTo, ih]
  exact (this _).symm

theorem sumTo_bump' {J : Nat → Nat} {n g : Nat} (hg : g < n) : sumTo (bump J g) n = sumTo J n + 1 := sumTo_bump hg

section
variable {F T : St} {JF JT : Nat → Nat} {i : Nat} {R : List Nat} {LS : Nat → List Int}

theorem Inv.lt_tot (h : Inv F T JF JT i R LS) {g : Nat} (hb : Best F JF F.G g) : i < tot F := by
  rw [h.ii]
  exact sumTo_lt h.jf hb.1 hb.2.1

/-- Only the first is taken: it is removed. -/
theorem Inv.left (hvF : Valid F) (h : Inv F T JF JT i R LS) {g : Nat} (hb : Best F JF F.G g) (hp : ∀ k z, k < T.G → JT k ≤ z → z < T.m k → cmp (el F g (JF g)) (el T k z) < 0) :
    Inv F T (bump JF g) JT (i + 1) (R ++ [i]) LS := by
  have hrk := rk_cur hvF hb h.jf h.ff
  have hno := not_has h.tf hb.1 (Nat.le_refl _) hb.2.1 hp
  have hrem := remB_at (T := T) hvF hb.1 hb.2.1
  rw [hrk, ← h.ii, hno] at hrem
  refine ⟨bump_le hb h.jf, h.jt, h.ff.self hvF hb, h.tt, h.ft.more hp, h.tf.less (le_bump _ _), ?_, ?_, h.la, h.ln⟩
  · rw [sumTo_bump' hb.1, h.ii]
  · rw [remL_succ, hrem, h.rr]; rfl

/-- The sizes at their new rows. -/
def putL (LS : Nat → List Int) (s : Nat) (l : List Int) : Nat → List Int := fun t => if t = s then l else LS t

/-- Only the second is taken: it is added. -/
theorem Inv.right (hvT : Valid T) (h : Inv F T JF JT i R LS) {g : Nat} (hb : Best T JT T.G g) (hp : ∀ k z, k < F.G → JF k ≤ z → z < F.m k → cmp (el T g (JT g)) (el F k z) < 0) :
    Inv F T JF (bump JT g) i R (putL LS (T.s g) (LS (T.s g) ++ el T g (JT g))) := by
  have hno := not_has h.ft hb.1 (Nat.le_refl _) hb.2.1 hp
  refine ⟨h.jf, bump_le hb h.jt, h.ff, h.tt.self hvT hb, h.ft.less (le_bump _ _), h.tf.more hp, h.ii, h.rr, fun k hk => ?_, fun s hs => ?_⟩
  · unfold putL bump
    by_cases e : k = g
    · subst e
      rw [if_pos rfl, if_pos rfl, h.la k hk]
      simp [addL, hno]
    · have hne : T.s k ≠ T.s g := by
        rcases Nat.lt_or_gt_of_ne e with hl | hl
        · have := hvT.asc k g hl hb.1; omega
        · have := hvT.asc g k hl hk; omega
      rw [if_neg hne, if_neg e, h.la k hk]
  · unfold putL
    rw [if_neg (fun e => hs g hb.1 e.symm)]
    exact h.ln s hs

/-- Both are taken, the same. -/
theorem Inv.both (hvF : Valid F) (hvT : Valid T) (h : Inv F T JF JT i R LS) {g k : Nat} (hb : Best F JF F.G g) (hc : Best T JT T.G k) (he : el F g (JF g) = el T k (JT k)) :
    Inv F T (bump JF g) (bump JT k) (i + 1) R LS := by
  have hrk := rk_cur hvF hb h.jf h.ff
  have hyes : hasB T (el F g (JF g)) = true := hasB_iff.2 ⟨k, JT k, hc.1, hc.2.1, he.symm⟩
  have hyes' : hasB F (el T k (JT k)) = true := hasB_iff.2 ⟨g, JF g, hb.1, hb.2.1, he⟩
  have hrem := remB_at (T := T) hvF hb.1 hb.2.1
  rw [hrk, ← h.ii, hyes] at hrem
  refine ⟨bump_le hb h.jf, bump_le hc h.jt, h.ff.self hvF hb, h.tt.self hvT hc, ?_, ?_, ?_, ?_, fun x hx => ?_, h.ln⟩
  · refine (h.ft.less (le_bump _ _)).more (fun x z h1 h2 h3 => ?_)
    rw [he]
    rcases best_least hvT hc h1 (Nat.le_trans (le_bump _ _ _) h2) h3 with ⟨rfl, rfl⟩ | h'
    · unfold bump at h2; rw [if_pos rfl] at h2; omega
    · exact h'
  · refine (h.tf.less (le_bump _ _)).more (fun x z h1 h2 h3 => ?_)
    rw [← he]
    rcases best_least hvF hb h1 (Nat.le_trans (le_bump _ _ _) h2) h3 with ⟨rfl, rfl⟩ | h'
    · unfold bump at h2; rw [if_pos rfl] at h2; omega
    · exact h'
  · rw [sumTo_bump' hb.1, h.ii]
  · rw [remL_succ, hrem, h.rr]; simp
  · unfold bump
    by_cases e : x = k
    · subst e
      rw [if_pos rfl, h.la x hx]
      simp [addL, hyes']
    · rw [if_neg e, h.la x hx]
end

/-- p before the first of T: before all of T that lies ahead. -/
theorem before_all {T : St} (hv : Valid T) {JT : Nat → Nat} {k : Nat} (hc : Best T JT T.G k) {p : List Int} (h : cmp p (el T k (JT k)) < 0) : ∀ x z, x < T.G → JT x ≤ z → z < T.m x → cmp p (el T x z) < 0 := by
  intro x z h1 h2 h3
  rcases best_least hv hc h1 h2 h3 with ⟨rfl, rfl⟩ | h'
  · exact h
  · exact cmp_trans h h'
theorem none_ahead {T : St} {JT : Nat → Nat} (h : ∀ x, x < T.G → JT x = T.m x) {p : List Int} : ∀ x z, x < T.G → JT x ≤ z → z < T.m x → cmp p (el T x z) < 0 := fun x z h1 h2 h3 => by
  have := h x h1; omega
theorem Inv.small {F T : St} {JF JT : Nat → Nat} {i : Nat} {R : List Nat} {LS : Nat → List Int} (h : Inv F T JF JT i R LS) {M : Nat} (hM : ∀ g, g < T.G → T.m g * T.s g ≤ M) (s : Nat) : (LS s).length ≤ M := by
  by_cases hs : ∃ g, g < T.G ∧ T.s g = s
  · obtain ⟨g, hg, rfl⟩ := hs
    rw [h.la g hg]
    have h1 := addL_length T F g (JT g)
    have h2 := Nat.mul_le_mul_right (T.s g) (h.jt g hg)
    have h3 := hM g hg
    omega
  · rw [h.ln s (fun g hg e => hs ⟨g, hg, e⟩)]
    exact Nat.zero_le _
end Go.Proofs.Qxb6627355a
