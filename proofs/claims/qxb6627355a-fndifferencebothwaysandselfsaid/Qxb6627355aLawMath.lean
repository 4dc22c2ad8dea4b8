import Derived.Test.Qxb6627355aDiff
namespace Go.Proofs.Qxb6627355a
open Go.RowKit

theorem sumTo_mono (f : Nat → Nat) {a b : Nat} (h : a ≤ b) : sumTo f a ≤ sumTo f b := by
  induction b with
  | zero => have : a = 0 := by omega
            subst this; exact Nat.le_refl _
  | succ b ih =>
    rcases Nat.lt_or_ge a (b + 1) with hl | hl
    · have := ih (by omega); simp only [sumTo]; omega
    · have : a = b + 1 := by omega
      subst this; exact Nat.le_refl _
theorem sumTo_one {f : Nat → Nat} {g n : Nat} (h : g < n) : f g ≤ sumTo f n := by
  have h1 := sumTo_mono f (show g + 1 ≤ n from h)
  simp only [sumTo] at h1; omega
theorem sumTo_same {f : Nat → Nat} {i j : Nat} (h : i ≤ j) (h0 : ∀ x, i ≤ x → x < j → f x = 0) : sumTo f j = sumTo f i := by
  induction j with
  | zero => have : i = 0 := by omega
            subst this; rfl
  | succ j ih =>
    rcases Nat.lt_or_ge i (j + 1) with hl | hl
    · have h1 := ih (by omega) (fun x h1 h2 => h0 x h1 (by omega))
      have h2 := h0 j (by omega) (by omega)
      simp only [sumTo, h2]; omega
    · have : i = j + 1 := by omega
      subst this; rfl

/-! ### The sets that came in -/
theorem set_in {w : World} {a1 a2 : Option Addr} {n : Nat} {Z : Nat → Int} {L : Nat → Nat} {X : Nat → Nat → Int} (h1 : Ints w a1 n Z) (h2 : Rws w a2 n L X) (hg : GoodTo Z L X n) : SetIn w a1 a2 (setOf n Z L X) := by
  obtain ⟨zb, zo, h1⟩ := h1
  obtain ⟨rb, ro, h2⟩ := h2
  refine ⟨⟨zb, zo, fun i hi => ⟨(h1 i hi).1, ?_⟩⟩, ⟨rb, ro, fun g hg' => ⟨(h2 g hg').1, ?_⟩⟩⟩
  · rw [(h1 i hi).2]
    have := (hg i hi).lo
    show some (Value.int .i64 (Z i)) = some (.int .i64 ((Z i).toNat : Int))
    rw [Int.toNat_of_nonneg (by omega)]
  · show Row w _ (L g / (Z g).toNat * (Z g).toNat) (X g)
    rw [← (hg g hg').len]
    exact (h2 g hg').2
theorem small_of {n : Nat} {Z : Nat → Int} {L : Nat → Nat} {X : Nat → Nat → Int} (hn : n ≤ 131072) (hL : sumTo L n ≤ 1048576) (hg : GoodTo Z L X n) : Small (setOf n Z L X) := by
  refine ⟨by show n ≤ _; omega, fun g hg' => ?_⟩
  show L g / (Z g).toNat * (Z g).toNat ≤ _
  rw [← (hg g hg').len]
  have := sumTo_one (f := L) (show g < n from hg')
  omega
theorem tots_of {n : Nat} {Z : Nat → Int} {L : Nat → Nat} {X : Nat → Nat → Int} (hL : sumTo L n ≤ 1048576) : ∀ g, g ≤ n → sumTo (setOf n Z L X).m g ≤ 1048576 := by
  intro g hg
  have h1 : sumTo (setOf n Z L X).m g ≤ sumTo L g := sumTo_le fun _ _ => Nat.div_le_self _ _
  have h2 := sumTo_mono L hg
  omega

/-! ### The ranks that are removed, by their places -/
theorem remL_prefix (F T : St) {r n : Nat} (h : r ≤ n) : ∃ t, remL F T n = remL F T r ++ t := by
  induction n with
  | zero => have : r = 0 := by omega
            subst this; exact ⟨[], by simp⟩
  | succ n ih =>
    rcases Nat.lt_or_ge r (n + 1) with hl | hl
    · obtain ⟨t, ht⟩ := ih (by omega)
      exact ⟨t ++ (if remB F T n then [n] else []), by rw [remL_succ, ht, List.append_assoc]⟩
    · have : r = n + 1 := by omega
      subst this; exact ⟨[], by simp⟩
theorem remL_get {F T : St} {r n : Nat} (h : r < n) (hr : remB F T r = true) : (remL F T n)[(remL F T r).length]? = some r := by
  obtain ⟨t, ht⟩ := remL_prefix F T (show r + 1 ≤ n from h)
  rw [ht, remL_succ, if_pos hr, List.append_assoc, List.getElem?_append_right (Nat.le_refl _), Nat.sub_self]
  rfl

/-! ### The marks -/
def Done (F T : St) (i j r : Nat) : Prop := ∃ g x, (g < i ∨ g = i ∧ x < j) ∧ g < F.G ∧ x < F.m g ∧ rk F (el F g x) = r ∧ hasB T (el F g x) = false
theorem done_end {F T : St} {r : Nat} : Done F T F.G 0 r ↔ remB F T r = true := by
  simp only [remB, List.any_eq_true, List.mem_range, Bool.and_eq_true, beq_iff_eq, Bool.not_eq_true']
  constructor
  · rintro ⟨g, x, _, h1, h2, h3, h4⟩; exact ⟨g, h1, x, h2, h3, h4⟩
  · rintro ⟨g, h1, x, h2, h3, h4⟩; exact ⟨g, x, Or.inl h1, h1, h2, h3, h4⟩
theorem done_row {F T : St} {i r : Nat} : Done F T i (F.m i) r ↔ Done F T (i + 1) 0 r := by
  constructor
  · rintro ⟨g, x, h0 | ⟨rfl, h0⟩, h1, h2, h3, h4⟩
    · exact ⟨g, x, Or.inl (by omega), h1, h2, h3, h4⟩
    · exact ⟨g, x, Or.inl (by omega), h1, h2, h3, h4⟩
  · rintro ⟨g, x, h0 | ⟨_, h0⟩, h1, h2, h3, h4⟩
    · rcases Nat.lt_succ_iff_lt_or_eq.1 h0 with hl | rfl
      · exact ⟨g, x, Or.inl hl, h1, h2, h3, h4⟩
      · exact ⟨g, x, Or.inr ⟨rfl, h2⟩, h1, h2, h3, h4⟩
    · omega
theorem done_has {F T : St} {i j r : Nat} (h : hasB T (el F i j) = true) : Done F T i (j + 1) r ↔ Done F T i j r := by
  constructor
  · rintro ⟨g, x, h0 | ⟨rfl, h0⟩, h1, h2, h3, h4⟩
    · exact ⟨g, x, Or.inl h0, h1, h2, h3, h4⟩
    · rcases Nat.lt_succ_iff_lt_or_eq.1 h0 with hl | rfl
      · exact ⟨g, x, Or.inr ⟨rfl, hl⟩, h1, h2, h3, h4⟩
      · rw [h] at h4; cases h4
  · rintro ⟨g, x, h0 | ⟨rfl, h0⟩, h1, h2, h3, h4⟩
    · exact ⟨g, x, Or.inl h0, h1, h2, h3, h4⟩
    · exact ⟨g, x, Or.inr ⟨rfl, by omega⟩, h1, h2, h3, h4⟩
theorem done_not {F T : St} {i j r : Nat} (hi : i < F.G) (hj : j < F.m i) (h : hasB T (el F i j) = false) : Done F T i (j + 1) r ↔ (r = rk F (el F i j) ∨ Done F T i j r) := by
  constructor
  · rintro ⟨g, x, h0 | ⟨rfl, h0⟩, h1, h2, h3, h4⟩
    · exact Or.inr ⟨g, x, Or.inl h0, h1, h2, h3, h4⟩
    · rcases Nat.lt_succ_iff_lt_or_eq.1 h0 with hl | rfl
      · exact Or.inr ⟨g, x, Or.inr ⟨rfl, hl⟩, h1, h2, h3, h4⟩
      · exact Or.inl h3.symm
  · rintro (rfl | ⟨g, x, h0 | ⟨rfl, h0⟩, h1, h2, h3, h4⟩)
    · exact ⟨i, j, Or.inr ⟨rfl, by omega⟩, hi, hj, rfl, h⟩
    · exact ⟨g, x, Or.inl h0, h1, h2, h3, h4⟩
    · exact ⟨g, x, Or.inr ⟨rfl, by omega⟩, h1, h2, h3, h4⟩

/-- The row of marks. -/
def Mk (w0 wr : World) (mb n : Nat) (F T : St) (i j : Nat) : Prop :=
  ∃ M : Nat → Bool, wr.rowIs mb 4 n (fun r => .bool (M r)) ∧ (∀ r, M r = true ↔ Done F T i j r) ∧ Below w0.heap.size w0 wr
theorem Mk.congr {w0 wr : World} {mb n : Nat} {F T : St} {i j i' j' : Nat} (h : Mk w0 wr mb n F T i j) (e : ∀ r, Done F T i j r ↔ Done F T i' j' r) : Mk w0 wr mb n F T i' j' := by
  obtain ⟨M, h1, h2, h3⟩ := h
  exact ⟨M, h1, fun r => (h2 r).trans (e r), h3⟩
theorem Mk.drawn {w0 wr w1 : World} {mb n : Nat} {F T : St} {i j : Nat} (h : Mk w0 wr mb n F T i j) (hd : Drawn wr w1) : Mk w0 w1 mb n F T i j := by
  obtain ⟨d, rfl⟩ := hd
  obtain ⟨M, h1, h2, h3⟩ := h
  exact ⟨M, h1, h2, below_drewN h3 d⟩
theorem Mk.set {w0 wr : World} {mb n : Nat} {F T : St} {i j : Nat} (h : Mk w0 wr mb n F T i j) (hmb : w0.heap.size ≤ mb) (hi : i < F.G) (hj : j < F.m i) (hn : hasB T (el F i j) = false) : Mk w0 (wr.setCell ⟨mb, rk F (el F i j), none⟩ (.bool true)) mb n F T i (j + 1) := by
  obtain ⟨M, h1, h2, h3⟩ := h
  refine ⟨fun r => if r = rk F (el F i j) then true else M r, (h1.set _ _).congr (fun r _ => ?_), fun r => ?_, h3.setCell hmb _⟩
  · by_cases e : r = rk F (el F i j)
    · simp [e]
    · simp [e]
  · rw [done_not hi hj hn]
    by_cases e : r = rk F (el F i j)
    · simp [e]
    · simp [e, h2 r]

/-! ### The sizes, group by group -/
def bd (T : St) (i : Nat) : Nat := if i < T.G then T.s i else 33
section
variable {T : St} {LS : Nat → List Int}
theorem bd_gap (hv : Valid T) (hl : ∀ s, (∀ h, h < T.G → T.s h ≠ s) → LS s = []) {i : Nat} (hi : i < T.G) : T.s i + 1 ≤ bd T (i + 1) ∧ ∀ x, T.s i + 1 ≤ x → x < bd T (i + 1) → (LS x).length = 0 := by
  refine ⟨?_, fun x h1 h2 => ?_⟩
  · unfold bd
    split
    · rename_i h; have := hv.asc i (i + 1) (by omega) h; omega
    · have := hv.hi i hi; omega
  · rw [hl x (fun h hh e => ?_)]; · rfl
    rcases Nat.lt_or_ge i h with hl' | hl'
    · unfold bd at h2
      rw [if_pos (by omega)] at h2
      rcases Nat.lt_or_ge (i + 1) h with h3 | h3
      · have := hv.asc (i + 1) h h3 hh; omega
      · have : h = i + 1 := by omega
        subst this; omega
    · rcases Nat.lt_or_ge h i with h3 | h3
      · have := hv.asc h i h3 hi; omega
      · have : h = i := by omega
        subst this; omega
theorem bd_zero (hl : ∀ s, (∀ h, h < T.G → T.s h ≠ s) → LS s = []) (hv : Valid T) : ∀ x, 0 ≤ x → x < bd T 0 → (LS x).length = 0 := by
  intro x _ h2
  rw [hl x (fun h hh e => ?_)]; · rfl
  unfold bd at h2
  rw [if_pos (by omega)] at h2
  rcases Nat.eq_zero_or_pos h with rfl | h3
  · omega
  · have := hv.asc 0 h h3 hh; omega
end
end Go.Proofs.Qxb6627355a
