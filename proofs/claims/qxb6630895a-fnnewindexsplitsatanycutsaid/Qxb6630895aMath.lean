/-
  The flows as plain numbers, and the index of them: plain laws, no Go in sight.
-/
namespace Go.Proofs.Qxb6630895a

/-- A list of flows, each a list of paths, each a list of components. -/
structure Inp where
  N : Nat
  PN : Nat → Nat
  QN : Nat → Nat → Nat
  C : Nat → Nat → Nat → Int

/-- Path j of flow f holds c. -/
def hasP (D : Inp) (f j : Nat) (c : Int) : Bool := (List.range (D.QN f j)).any fun q => D.C f j q == c
/-- Flow f holds c. -/
def hasF (D : Inp) (f : Nat) (c : Int) : Bool := (List.range (D.PN f)).any fun j => hasP D f j c
/-- c occurs in flow f ahead of position q of path j. -/
def seen (D : Inp) (f j q : Nat) (c : Int) : Bool := (List.range j).any (fun j' => hasP D f j' c) || (List.range q).any (fun q' => D.C f j q' == c)
/-- How many of the first f flows hold c. -/
def cnt (D : Inp) (c : Int) : Nat → Nat
  | 0 => 0
  | f + 1 => cnt D c f + (if hasF D f c then 1 else 0)
/-- How many pairs (flow, component) there are with a component under k. -/
def st (D : Inp) : Nat → Nat
  | 0 => 0
  | k + 1 => st D k + cnt D (k : Int) D.N
/-- How often c has been visited when position q of path j of flow f is reached. -/
def vis (D : Inp) (f j q : Nat) (c : Int) : Nat := cnt D c f + (if seen D f j q c then 1 else 0)

theorem any_range_succ (p : Nat → Bool) (n : Nat) : (List.range (n + 1)).any p = ((List.range n).any p || p n) := by
  simp [List.range_succ]

theorem seen_zero (D : Inp) (f : Nat) (c : Int) : seen D f 0 0 c = false := by simp [seen]
theorem seen_succ (D : Inp) (f j q : Nat) (c : Int) : seen D f j (q + 1) c = (seen D f j q c || D.C f j q == c) := by
  simp only [seen, any_range_succ, Bool.or_assoc]
theorem seen_next (D : Inp) (f j : Nat) (c : Int) : seen D f (j + 1) 0 c = seen D f j (D.QN f j) c := by
  simp only [seen, any_range_succ, hasP]
  simp
theorem seen_full (D : Inp) (f : Nat) (c : Int) : seen D f (D.PN f) 0 c = hasF D f c := by simp [seen, hasF]

theorem hasP_of {D : Inp} {f j q : Nat} (h : q < D.QN f j) : hasP D f j (D.C f j q) = true := by
  simp only [hasP, List.any_eq_true, List.mem_range]
  exact ⟨q, h, by simp⟩
theorem hasF_of {D : Inp} {f j q : Nat} (hj : j < D.PN f) (h : q < D.QN f j) : hasF D f (D.C f j q) = true := by
  simp only [hasF, List.any_eq_true, List.mem_range]
  exact ⟨j, hj, hasP_of h⟩
theorem hasF_elim {D : Inp} {f : Nat} {c : Int} (h : hasF D f c = true) : ∃ j q, j < D.PN f ∧ q < D.QN f j ∧ D.C f j q = c := by
  simp only [hasF, hasP, List.any_eq_true, List.mem_range] at h
  obtain ⟨j, hj, q, hq, e⟩ := h
  exact ⟨j, q, hj, hq, by simpa using e⟩

theorem vis_zero (D : Inp) (c : Int) : vis D 0 0 0 c = 0 := by simp [vis, cnt, seen_zero]
theorem vis_flow (D : Inp) (f : Nat) (c : Int) : vis D (f + 1) 0 0 c = vis D f (D.PN f) 0 c := by simp [vis, cnt, seen_zero, seen_full]
theorem vis_path (D : Inp) (f j : Nat) (c : Int) : vis D f (j + 1) 0 c = vis D f j (D.QN f j) c := by simp [vis, seen_next]
theorem vis_start (D : Inp) (f : Nat) (c : Int) : vis D f 0 0 c = cnt D c f := by simp [vis, seen_zero]
theorem vis_old {D : Inp} {f j q : Nat} (h : seen D f j q (D.C f j q) = true) (c : Int) : vis D f j (q + 1) c = vis D f j q c := by
  unfold vis
  rw [seen_succ]
  by_cases e : D.C f j q = c
  · subst e; simp [h]
  · simp [e]
theorem vis_new {D : Inp} {f j q : Nat} (h : seen D f j q (D.C f j q) = false) (c : Int) : vis D f j (q + 1) c = vis D f j q c + (if c = D.C f j q then 1 else 0) := by
  unfold vis
  rw [seen_succ]
  by_cases e : D.C f j q = c
  · subst e; simp [h]
  · have e' : ¬ c = D.C f j q := fun x => e x.symm
    simp [e, e']
theorem vis_unseen {D : Inp} {f j q : Nat} {c : Int} (h : seen D f j q c = false) : vis D f j q c = cnt D c f := by simp [vis, h]

theorem cnt_le (D : Inp) (c : Int) (f : Nat) : cnt D c f ≤ f := by
  induction f with
  | zero => exact Nat.le_refl _
  | succ f ih => simp only [cnt]; split <;> omega
theorem cnt_mono (D : Inp) (c : Int) {f g : Nat} (h : f ≤ g) : cnt D c f ≤ cnt D c g := by
  induction g with
  | zero => have : f = 0 := by omega
            subst this; exact Nat.le_refl _
  | succ g ih =>
    rcases Nat.lt_or_ge f (g + 1) with hl | hl
    · have := ih (by omega)
      simp only [cnt]
      omega
    · have : f = g + 1 := by omega
      subst this; exact Nat.le_refl _
theorem cnt_lt {D : Inp} {c : Int} {f g : Nat} (hf : hasF D f c = true) (h : f < g) : cnt D c f < cnt D c g := by
  have h1 : cnt D c (f + 1) = cnt D c f + 1 := by simp [cnt, hf]
  have := cnt_mono D c (show f + 1 ≤ g from h)
  omega
theorem cnt_inj {D : Inp} {c : Int} {f g : Nat} (hf : hasF D f c = true) (hg : hasF D g c = true) (h : cnt D c f = cnt D c g) : f = g := by
  rcases Nat.lt_trichotomy f g with hl | hl | hl
  · have := cnt_lt hf hl; omega
  · exact hl
  · have := cnt_lt hg hl; omega
theorem st_mono (D : Inp) {a b : Nat} (h : a ≤ b) : st D a ≤ st D b := by
  induction b with
  | zero => have : a = 0 := by omega
            subst this; exact Nat.le_refl _
  | succ b ih =>
    rcases Nat.lt_or_ge a (b + 1) with hl | hl
    · have := ih (by omega)
      simp only [st]
      omega
    · have : a = b + 1 := by omega
      subst this; exact Nat.le_refl _
theorem st_le (D : Inp) (k : Nat) : st D k ≤ k * D.N := by
  induction k with
  | zero => simp [st]
  | succ k ih =>
    have := cnt_le D (k : Int) D.N
    simp only [st, Nat.succ_mul]
    omega
/-- Two places of the index are one only for one component and one rank. -/
theorem st_apart {D : Inp} {a b x y : Nat} (hx : x < cnt D (a : Int) D.N) (hy : y < cnt D (b : Int) D.N) (h : st D a + x = st D b + y) : a = b ∧ x = y := by
  rcases Nat.lt_trichotomy a b with hl | hl | hl
  · have h1 := st_mono D (show a + 1 ≤ b from hl)
    simp only [st] at h1
    omega
  · subst hl; exact ⟨rfl, by omega⟩
  · have h1 := st_mono D (show b + 1 ≤ a from hl)
    simp only [st] at h1
    omega
theorem st_in {D : Inp} {a n x : Nat} (ha : a < n) (hx : x < cnt D (a : Int) D.N) : st D a + x < st D n := by
  have h1 := st_mono D (show a + 1 ≤ n from ha)
  simp only [st] at h1
  omega
end Go.Proofs.Qxb6630895a
