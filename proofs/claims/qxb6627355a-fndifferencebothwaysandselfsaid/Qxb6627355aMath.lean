/-
  Byte strings in their order; sets of them in groups: plain laws, no Go in sight.
-/
namespace Go.Proofs.Qxb6627355a

/-- The first m of X, as a list. -/
def ls (m : Nat) (X : Nat → Int) : List Int := (List.range m).map X

/-- The order of byte strings: -1, 0, 1. -/
def cmp : List Int → List Int → Int
  | [], [] => 0
  | [], _ :: _ => -1
  | _ :: _, [] => 1
  | a :: as, b :: bs => if a < b then -1 else if b < a then 1 else cmp as bs

theorem cmp_self (a : List Int) : cmp a a = 0 := by
  induction a with
  | nil => rfl
  | cons x xs ih => simp [cmp, ih]
theorem cmp_eq {a b : List Int} (h : cmp a b = 0) : a = b := by
  induction a generalizing b with
  | nil => cases b with
    | nil => rfl
    | cons y ys => simp [cmp] at h
  | cons x xs ih => cases b with
    | nil => simp [cmp] at h
    | cons y ys =>
      simp only [cmp] at h
      split at h
      · omega
      · split at h
        · omega
        · rw [ih h, show x = y by omega]
theorem cmp_vals (a b : List Int) : cmp a b = -1 ∨ cmp a b = 0 ∨ cmp a b = 1 := by
  induction a generalizing b with
  | nil => cases b <;> simp [cmp]
  | cons x xs ih => cases b with
    | nil => simp [cmp]
    | cons y ys =>
      simp only [cmp]
      split
      · simp
      · split
        · simp
        · exact ih ys
theorem cmp_swap (a b : List Int) : cmp b a = - cmp a b := by
  induction a generalizing b with
  | nil => cases b <;> simp [cmp]
  | cons x xs ih => cases b with
    | nil => simp [cmp]
    | cons y ys =>
      simp only [cmp]
      by_cases h1 : x < y
      · rw [if_neg (by omega), if_pos h1, if_pos h1]; rfl
      · by_cases h2 : y < x
        · rw [if_pos h2, if_neg h1, if_pos h2]
        · rw [if_neg h2, if_neg h1, if_neg h1, if_neg h2]; exact ih ys
theorem cmp_trans {a b c : List Int} (h1 : cmp a b < 0) (h2 : cmp b c < 0) : cmp a c < 0 := by
  induction a generalizing b c with
  | nil => cases b with
    | nil => simp [cmp] at h1
    | cons y ys => cases c with
      | nil => simp [cmp] at h2
      | cons z zs => simp [cmp]
  | cons x xs ih => cases b with
    | nil => simp [cmp] at h1
    | cons y ys => cases c with
      | nil => simp [cmp] at h2
      | cons z zs =>
        simp only [cmp] at h1 h2 ⊢
        by_cases a1 : x < y
        · by_cases a2 : y < z
          · rw [if_pos (by omega)]; omega
          · by_cases a3 : z < y
            · rw [if_neg a2, if_pos a3] at h2; omega
            · rw [if_pos (by omega)]; omega
        · by_cases a2 : y < x
          · rw [if_neg a1, if_pos a2] at h1; omega
          · rw [if_neg a1, if_neg a2] at h1
            by_cases a3 : y < z
            · rw [if_pos (by omega)]; omega
            · by_cases a4 : z < y
              · rw [if_neg a3, if_pos a4] at h2; omega
              · rw [if_neg a3, if_neg a4] at h2
                rw [if_neg (by omega), if_neg (by omega)]
                exact ih h1 h2
theorem cmp_lt_irrefl {a : List Int} (h : cmp a a < 0) : False := by rw [cmp_self] at h; omega
theorem cmp_asymm {a b : List Int} (h : cmp a b < 0) : ¬ cmp b a < 0 := by rw [cmp_swap]; omega
theorem cmp_tri (a b : List Int) : cmp a b < 0 ∨ a = b ∨ cmp b a < 0 := by
  rcases cmp_vals a b with h | h | h
  · exact Or.inl (by omega)
  · exact Or.inr (Or.inl (cmp_eq h))
  · exact Or.inr (Or.inr (by rw [cmp_swap]; omega))
/-- a < b ≤ c. -/
theorem cmp_lt_le {a b c : List Int} (h1 : cmp a b < 0) (h2 : ¬ cmp c b < 0) : cmp a c < 0 := by
  rcases cmp_tri b c with h | rfl | h
  · exact cmp_trans h1 h
  · exact h1
  · exact absurd h h2

theorem ls_length (m : Nat) (X : Nat → Int) : (ls m X).length = m := by simp [ls]
theorem ls_succ (m : Nat) (X : Nat → Int) : ls (m + 1) X = X 0 :: ls m (fun i => X (i + 1)) := by
  simp only [ls, List.range_succ_eq_map, List.map_cons, List.map_map]
  rfl
theorem ls_get {m : Nat} {X : Nat → Int} {i : Nat} (h : i < m) : (ls m X)[i]? = some (X i) := by simp [ls, h]
theorem ls_congr {m : Nat} {X Y : Nat → Int} (h : ∀ i, i < m → X i = Y i) : ls m X = ls m Y := by
  unfold ls
  exact List.map_congr_left fun i hi => h i (List.mem_range.1 hi)
theorem ls_eq_iff {m n : Nat} {X Y : Nat → Int} (h : ls m X = ls n Y) : m = n := by
  have := congrArg List.length h
  simpa [ls] using this
/-- A list as the first of its own elements. -/
theorem ls_list (xs : List Int) : ls xs.length (fun i => xs[i]?.getD 0) = xs := by
  apply List.ext_getElem?
  intro i
  by_cases h : i < xs.length
  · simp [ls, h]
  · simp [ls, h]

/-- The first place where they part tells. -/
theorem cmp_part {m n i : Nat} {X Y : Nat → Int} (hm : i < m) (hn : i < n) (he : ∀ k, k < i → X k = Y k) : (X i < Y i → cmp (ls m X) (ls n Y) = -1) ∧ (Y i < X i → cmp (ls m X) (ls n Y) = 1) := by
  induction i generalizing m n X Y with
  | zero =>
    obtain ⟨m, rfl⟩ : ∃ k, m = k + 1 := ⟨m - 1, by omega⟩
    obtain ⟨n, rfl⟩ : ∃ k, n = k + 1 := ⟨n - 1, by omega⟩
    rw [ls_succ, ls_succ]
    refine ⟨fun h => by simp [cmp, h], fun h => ?_⟩
    simp only [cmp]
    rw [if_neg (by omega), if_pos h]
  | succ i ih =>
    obtain ⟨m, rfl⟩ : ∃ k, m = k + 1 := ⟨m - 1, by omega⟩
    obtain ⟨n, rfl⟩ : ∃ k, n = k + 1 := ⟨n - 1, by omega⟩
    have h0 := he 0 (by omega)
    have := ih (m := m) (n := n) (X := fun k => X (k + 1)) (Y := fun k => Y (k + 1)) (by omega) (by omega) (fun k hk => he (k + 1) (by omega))
    rw [ls_succ, ls_succ]
    simp only [cmp]
    rw [if_neg (by omega), if_neg (by omega)]
    exact this
/-- No such place: the lengths tell. -/
theorem cmp_ends {m n : Nat} {X Y : Nat → Int} (he : ∀ k, k < m → k < n → X k = Y k) : cmp (ls m X) (ls n Y) = if m < n then -1 else if n < m then 1 else 0 := by
  induction m generalizing n X Y with
  | zero => cases n with
    | zero => rfl
    | succ n => rw [ls_succ]; simp [ls, cmp]
  | succ m ih => cases n with
    | zero => rw [ls_succ]; simp [ls, cmp]
    | succ n =>
      rw [ls_succ, ls_succ]
      have h0 := he 0 (by omega) (by omega)
      simp only [cmp]
      rw [if_neg (by omega), if_neg (by omega), ih (fun k h1 h2 => he (k + 1) (by omega) (by omega))]
      simp only [Nat.add_lt_add_iff_right]

/-! ### How many of a sorted row lie below p -/
def blw (E : Nat → List Int) (p : List Int) : Nat → Nat
  | 0 => 0
  | m + 1 => blw E p m + (if cmp (E m) p < 0 then 1 else 0)
def Asc (E : Nat → List Int) (m : Nat) : Prop := ∀ i j, i < j → j < m → cmp (E i) (E j) < 0
theorem blw_le (E : Nat → List Int) (p : List Int) (m : Nat) : blw E p m ≤ m := by
  induction m with
  | zero => exact Nat.le_refl _
  | succ m ih => simp only [blw]; split <;> omega
theorem blw_spec {E : Nat → List Int} {p : List Int} {m : Nat} (h : Asc E m) {j : Nat} (hj : j < m) : cmp (E j) p < 0 ↔ j < blw E p m := by
  induction m generalizing j with
  | zero => omega
  | succ m ih =>
    simp only [blw]
    by_cases hm : cmp (E m) p < 0
    · have hall : blw E p m = m := by
        rcases Nat.lt_or_ge (blw E p m) m with hl | hl
        · have h1 : cmp (E (blw E p m)) p < 0 := cmp_trans (h _ _ hl (by omega)) hm
          have := (ih (fun a b hab hb => h a b hab (by omega)) hl).1 h1
          omega
        · have := blw_le E p m; omega
      rw [if_pos hm, hall]
      rcases Nat.lt_or_ge j m with hl | hl
      · have h1 : cmp (E j) p < 0 := cmp_trans (h _ _ hl (by omega)) hm
        exact ⟨fun _ => by omega, fun _ => h1⟩
      · have : j = m := by omega
        subst this
        exact ⟨fun _ => by omega, fun _ => hm⟩
    · rw [if_neg hm, Nat.add_zero]
      rcases Nat.lt_or_ge j m with hl | hl
      · exact ih (fun a b hab hb => h a b hab (by omega)) hl
      · have : j = m := by omega
        subst this
        have := blw_le E p j
        exact ⟨fun h' => absurd h' hm, fun h' => by omega⟩
theorem blw_eq {E : Nat → List Int} {p : List Int} {m k : Nat} (h : Asc E m) (hk : k ≤ m) (h1 : ∀ j, j < k → cmp (E j) p < 0) (h2 : k < m → ¬ cmp (E k) p < 0) : blw E p m = k := by
  rcases Nat.lt_trichotomy (blw E p m) k with hl | hl | hl
  · have := (blw_spec h (j := blw E p m) (by omega)).1 (h1 _ hl)
    omega
  · exact hl
  · have hb := blw_le E p m
    exact absurd ((blw_spec h (j := k) (by omega)).2 hl) (h2 (by omega))

/-! ### Sets in groups -/
structure St where
  G : Nat
  s : Nat → Nat
  m : Nat → Nat
  X : Nat → Nat → Int
def el (S : St) (g j : Nat) : List Int := ls (S.s g) (fun i => S.X g (j * S.s g + i))
theorem el_length (S : St) (g j : Nat) : (el S g j).length = S.s g := ls_length _ _
structure Valid (S : St) : Prop where
  lo : ∀ g, g < S.G → 1 ≤ S.s g
  hi : ∀ g, g < S.G → S.s g ≤ 32
  pos : ∀ g, g < S.G → 1 ≤ S.m g
  asc : ∀ g h, g < h → h < S.G → S.s g < S.s h
  ord : ∀ g, g < S.G → Asc (el S g) (S.m g)

def sumTo (f : Nat → Nat) : Nat → Nat
  | 0 => 0
  | n + 1 => sumTo f n + f n
theorem sumTo_congr {f g : Nat → Nat} {n : Nat} (h : ∀ i, i < n → f i = g i) : sumTo f n = sumTo g n := by
  induction n with
  | zero => rfl
  | succ n ih => simp only [sumTo, ih (fun i hi => h i (by omega)), h n (by omega)]
theorem sumTo_le {f g : Nat → Nat} {n : Nat} (h : ∀ i, i < n → f i ≤ g i) : sumTo f n ≤ sumTo g n := by
  induction n with
  | zero => exact Nat.le_refl _
  | succ n ih => have := ih (fun i hi => h i (by omega)); have := h n (by omega); simp only [sumTo]; omega
theorem sumTo_lt {f g : Nat → Nat} {n k : Nat} (h : ∀ i, i < n → f i ≤ g i) (hk : k < n) (hlt : f k < g k) : sumTo f n < sumTo g n := by
  induction n with
  | zero => omega
  | succ n ih =>
    simp only [sumTo]
    rcases Nat.lt_or_ge k n with hl | hl
    · have := ih (fun i hi => h i (by omega)) hl; have := h n (by omega); omega
    · have e : k = n := by omega
      subst e
      have := sumTo_le (f := f) (g := g) (n := k) (fun i hi => h i (by omega))
      omega
theorem sumTo_bump {f : Nat → Nat} {n k : Nat} (hk : k < n) : sumTo (fun i => if i = k then f i + 1 else f i) n = sumTo f n + 1 := by
  induction n with
  | zero => omega
  | succ n ih =>
    simp only [sumTo]
    rcases Nat.lt_or_ge k n with hl | hl
    · rw [ih hl, if_neg (by omega)]; omega
    · have e : k = n := by omega
      subst e
      rw [if_pos rfl, sumTo_congr (g := f) (fun i hi => by rw [if_neg (by omega)])]
      omega

/-- The rank of p: how many of the set lie below it. -/
def rk (S : St) (p : List Int) : Nat := sumTo (fun g => blw (el S g) p (S.m g)) S.G
def tot (S : St) : Nat := sumTo S.m S.G
def hasB (S : St) (p : List Int) : Bool := (List.range S.G).any fun g => (List.range (S.m g)).any fun j => el S g j == p
theorem hasB_iff {S : St} {p : List Int} : hasB S p = true ↔ ∃ g j, g < S.G ∧ j < S.m g ∧ el S g j = p := by
  simp only [hasB, List.any_eq_true, List.mem_range, beq_iff_eq]
  constructor
  · rintro ⟨g, hg, j, hj, e⟩; exact ⟨g, j, hg, hj, e⟩
  · rintro ⟨g, j, hg, hj, e⟩; exact ⟨g, hg, j, hj, e⟩
theorem rk_le (S : St) (p : List Int) : rk S p ≤ tot S := sumTo_le fun _ _ => blw_le _ _ _
theorem blw_mono {E : Nat → List Int} {p q : List Int} (h : ¬ cmp q p < 0) (m : Nat) : blw E p m ≤ blw E q m := by
  induction m with
  | zero => exact Nat.le_refl _
  | succ m ih =>
    simp only [blw]
    by_cases h1 : cmp (E m) p < 0
    · rw [if_pos h1, if_pos (cmp_lt_le h1 h)]; omega
    · rw [if_neg h1]; omega
theorem rk_lt {S : St} (hv : Valid S) {g j : Nat} (hg : g < S.G) (hj : j < S.m g) {q : List Int} (h : cmp (el S g j) q < 0) : rk S (el S g j) < rk S q := by
  refine sumTo_lt (k := g) (fun i _ => blw_mono (cmp_asymm h) _) hg ?_
  have h1 := (blw_spec (p := q) (hv.ord g hg) hj).1 h
  have h2 : ¬ j < blw (el S g) (el S g j) (S.m g) := fun h' => cmp_lt_irrefl ((blw_spec (hv.ord g hg) hj).2 h')
  omega
theorem rk_lt_tot {S : St} (hv : Valid S) {g j : Nat} (hg : g < S.G) (hj : j < S.m g) : rk S (el S g j) < tot S := by
  refine sumTo_lt (k := g) (fun i _ => blw_le _ _ _) hg ?_
  have h2 : ¬ j < blw (el S g) (el S g j) (S.m g) := fun h' => cmp_lt_irrefl ((blw_spec (hv.ord g hg) hj).2 h')
  omega
theorem rk_inj {S : St} (hv : Valid S) {g j h k : Nat} (hg : g < S.G) (hj : j < S.m g) (hh : h < S.G) (hk : k < S.m h) (e : rk S (el S g j) = rk S (el S h k)) : el S g j = el S h k := by
  rcases cmp_tri (el S g j) (el S h k) with h1 | h1 | h1
  · have := rk_lt hv hg hj h1; omega
  · exact h1
  · have := rk_lt hv hh hk h1; omega
/-- One element lies in one place. -/
theorem el_inj {S : St} (hv : Valid S) {g j h k : Nat} (hg : g < S.G) (hj : j < S.m g) (hh : h < S.G) (hk : k < S.m h) (e : el S g j = el S h k) : g = h ∧ j = k := by
  have hs : S.s g = S.s h := by have := congrArg List.length e; simpa [el_length] using this
  have e1 : g = h := by
    rcases Nat.lt_trichotomy g h with hl | hl | hl
    · have := hv.asc g h hl hh; omega
    · exact hl
    · have := hv.asc h g hl hg; omega
  subst e1
  refine ⟨rfl, ?_⟩
  rcases Nat.lt_trichotomy j k with hl | hl | hl
  · have := hv.ord g hg j k hl hk; rw [e] at this; exact absurd this cmp_lt_irrefl
  · exact hl
  · have := hv.ord g hg k j hl hj; rw [e] at this; exact absurd this cmp_lt_irrefl
end Go.Proofs.Qxb6627355a
