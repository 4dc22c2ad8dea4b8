/-
  The flows cut in two, and the count of distinct components: plain laws, no Go in sight.
-/
import Derived.Test.Qxb6630895aMath
namespace Go.Proofs.Qxb6630895a

/-- The first k flows. -/
def cutL (D : Inp) (k : Nat) : Inp := ⟨k, D.PN, D.QN, D.C⟩
/-- The flows from k on. -/
def cutR (D : Inp) (k : Nat) : Inp := ⟨D.N - k, fun i => D.PN (k + i), fun i j => D.QN (k + i) j, fun i j q => D.C (k + i) j q⟩

theorem hasF_cutL (D : Inp) (k f : Nat) (c : Int) : hasF (cutL D k) f c = hasF D f c := rfl
theorem hasF_cutR (D : Inp) (k f : Nat) (c : Int) : hasF (cutR D k) f c = hasF D (k + f) c := rfl
theorem cnt_cutL (D : Inp) (k : Nat) (c : Int) (f : Nat) : cnt (cutL D k) c f = cnt D c f := by
  induction f with
  | zero => rfl
  | succ f ih =>
    show cnt (cutL D k) c f + (if hasF D f c then 1 else 0) = _
    rw [ih]; rfl
theorem cnt_cutR (D : Inp) (k : Nat) (c : Int) (f : Nat) : cnt D c (k + f) = cnt D c k + cnt (cutR D k) c f := by
  induction f with
  | zero => rfl
  | succ f ih =>
    show cnt D c (k + f) + (if hasF D (k + f) c then 1 else 0) = cnt D c k + (cnt (cutR D k) c f + (if hasF D (k + f) c then 1 else 0))
    omega
theorem cnt_cut (D : Inp) (k : Nat) (hk : k ≤ D.N) (c : Int) : cnt D c D.N = cnt (cutL D k) c (cutL D k).N + cnt (cutR D k) c (cutR D k).N := by
  have h := cnt_cutR D k c (D.N - k)
  rw [show k + (D.N - k) = D.N from by omega] at h
  rw [h, cnt_cutL]
  rfl

/-- Each rank is some flow's. -/
theorem rank_of {D : Inp} {c : Int} {m r : Nat} (h : r < cnt D c m) : ∃ f, f < m ∧ hasF D f c = true ∧ cnt D c f = r := by
  induction m with
  | zero => simp [cnt] at h
  | succ m ih =>
    by_cases hr : r < cnt D c m
    · obtain ⟨f, h1, h2, h3⟩ := ih hr
      exact ⟨f, by omega, h2, h3⟩
    · simp only [cnt] at h
      cases hh : hasF D m c with
      | false => rw [hh] at h; simp at h; omega
      | true => rw [hh] at h; simp at h; exact ⟨m, by omega, hh, by omega⟩

/-! ### How many distinct components -/
/-- Of the components under n how many have been seen. -/
def scount (D : Inp) (f j q : Nat) : Nat → Nat
  | 0 => 0
  | n + 1 => scount D f j q n + (if seen D f j q (n : Int) then 1 else 0)
/-- Of the components under n how many flow f holds. -/
def dcount (D : Inp) (f : Nat) : Nat → Nat
  | 0 => 0
  | n + 1 => dcount D f n + (if hasF D f (n : Int) then 1 else 0)
/-- .. of the first m flows, added up. -/
def dsum (D : Inp) (n : Nat) : Nat → Nat
  | 0 => 0
  | m + 1 => dsum D n m + dcount D m n

theorem scount_zero (D : Inp) (f n : Nat) : scount D f 0 0 n = 0 := by
  induction n with
  | zero => rfl
  | succ n ih => simp [scount, ih, seen_zero]
theorem scount_next (D : Inp) (f j n : Nat) : scount D f (j + 1) 0 n = scount D f j (D.QN f j) n := by
  induction n with
  | zero => rfl
  | succ n ih => simp only [scount, ih, seen_next]
theorem scount_full (D : Inp) (f n : Nat) : scount D f (D.PN f) 0 n = dcount D f n := by
  induction n with
  | zero => rfl
  | succ n ih => simp only [scount, dcount, ih, seen_full]
theorem scount_old {D : Inp} {f j q c : Nat} (hc : D.C f j q = (c : Int)) (hs : seen D f j q (c : Int) = true) (n : Nat) : scount D f j (q + 1) n = scount D f j q n := by
  induction n with
  | zero => rfl
  | succ n ih =>
    simp only [scount, ih, seen_succ, hc]
    by_cases e : (c : Int) = (n : Int)
    · rw [← e, hs]; simp
    · simp [e]
theorem scount_new' {D : Inp} {f j q c : Nat} (hc : D.C f j q = (c : Int)) (hs : seen D f j q (c : Int) = false) (n : Nat) : scount D f j (q + 1) n = scount D f j q n + (if c < n then 1 else 0) := by
  induction n with
  | zero => simp [scount]
  | succ n ih =>
    simp only [scount, ih, seen_succ, hc]
    by_cases e : c = n
    · subst e; simp [hs]
    · have e' : ¬ (c : Int) = (n : Int) := by omega
      by_cases hl : c < n
      · simp [e', hl, show c < n + 1 from by omega]; omega
      · simp [e', hl, show ¬ c < n + 1 from by omega]
theorem scount_new {D : Inp} {f j q c n : Nat} (hc : D.C f j q = (c : Int)) (hs : seen D f j q (c : Int) = false) (hn : c < n) : scount D f j (q + 1) n = scount D f j q n + 1 := by
  rw [scount_new' hc hs, if_pos hn]
theorem scount_le (D : Inp) (f j q n : Nat) : scount D f j q n ≤ n := by
  induction n with
  | zero => exact Nat.le_refl _
  | succ n ih => simp only [scount]; split <;> omega
theorem dcount_le (D : Inp) (f n : Nat) : dcount D f n ≤ n := by rw [← scount_full]; exact scount_le _ _ _ _ _
theorem dsum_le (D : Inp) (n m : Nat) : dsum D n m ≤ n * m := by
  induction m with
  | zero => simp [dsum]
  | succ m ih =>
    have := dcount_le D m n
    simp only [dsum, Nat.mul_succ]
    omega

/-- The pairs counted by components, and counted by flows. -/
def csum (D : Inp) (m : Nat) : Nat → Nat
  | 0 => 0
  | n + 1 => csum D m n + cnt D (n : Int) m
theorem csum_st (D : Inp) (n : Nat) : csum D D.N n = st D n := by
  induction n with
  | zero => rfl
  | succ n ih => simp only [csum, st, ih]
theorem csum_succ (D : Inp) (m n : Nat) : csum D (m + 1) n = csum D m n + dcount D m n := by
  induction n with
  | zero => rfl
  | succ n ih => simp only [csum, dcount, ih, cnt]; omega
theorem csum_dsum (D : Inp) (n m : Nat) : csum D m n = dsum D n m := by
  induction m with
  | zero =>
    have h : ∀ n, csum D 0 n = 0 := fun n => by
      induction n with
      | zero => rfl
      | succ n ih => simp [csum, ih, cnt]
    rw [h]; rfl
  | succ m ih => rw [csum_succ, ih]; rfl
theorem st_dsum (D : Inp) (n : Nat) : st D n = dsum D n D.N := by rw [← csum_st, csum_dsum]
end Go.Proofs.Qxb6630895a
