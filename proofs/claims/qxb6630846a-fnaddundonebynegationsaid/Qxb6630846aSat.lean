import Derived.Test.Qxb6630846aRows
import Derived.WalkKit
import Derived.ProofKit
import Derived.OpenShut
import Derived.ShutString
namespace Go.Proofs.Qxb6630846a.Sat
open Go.RowKit

/-- r is the exact sum of a and b, clamped to the range of int64. -/
def IsSat (a b r : Int) : Prop :=
  (9223372036854775807 < a + b ∧ r = 9223372036854775807) ∨ (a + b < -9223372036854775808 ∧ r = -9223372036854775808) ∨
  (a + b ≤ 9223372036854775807 ∧ -9223372036854775808 ≤ a + b ∧ r = a + b)

theorem IsSat.range {a b r : Int} (h : IsSat a b r) : -9223372036854775808 ≤ r ∧ r ≤ 9223372036854775807 := by
  unfold IsSat at h; omega

theorem wrap_over (s : Int) (h : 9223372036854775807 < s) (h' : s ≤ 18446744073709551614) : wrap64 s < 0 := by
  unfold wrap64; omega

theorem wrap_under (s : Int) (h : s < -9223372036854775808) (h' : -18446744073709551616 ≤ s) : 0 ≤ wrap64 s := by
  unfold wrap64; omega

/-- 'add' gives the exact sum, clamped. -/
theorem add_calls (a b : Int) (w : World) (ha : -9223372036854775808 ≤ a) (ha' : a ≤ 9223372036854775807)
    (hb : -9223372036854775808 ≤ b) (hb' : b ≤ 9223372036854775807) :
    Calls Try.prog 8 #[.int .i64 a, .int .i64 b] w fun e w' => (∃ r, e = .returned (.int .i64 r) ∧ IsSat a b r) ∧ w' = w := by
  by_cases h1 : 0 < a
  · by_cases h2 : 0 < b
    · by_cases h3 : a + b ≤ 9223372036854775807
      · have hw : ¬ (a + b < 0) := by omega
        go_enter Try.func8, Try.ntmps8
        go_wp2
        go_ret
        exact ⟨⟨_, rfl, Or.inr (Or.inr ⟨by omega, by omega, rfl⟩)⟩, rfl⟩
      · have hw := wrap_over (a + b) (by omega) (by omega)
        go_enter Try.func8, Try.ntmps8
        go_wp2
        go_ret
        exact ⟨⟨_, rfl, Or.inl ⟨by omega, rfl⟩⟩, rfl⟩
    · have h4 : a + b ≤ 9223372036854775807 := by omega
      have h5 : -9223372036854775808 ≤ a + b := by omega
      have h6 : ¬ a < 0 := by omega
      go_enter Try.func8, Try.ntmps8
      go_wp2
      go_ret
      exact ⟨⟨_, rfl, Or.inr (Or.inr ⟨by omega, by omega, rfl⟩)⟩, rfl⟩
  · by_cases h2 : a < 0
    · by_cases h3 : b < 0
      · by_cases h4 : -9223372036854775808 ≤ a + b
        · have hw : ¬ (0 ≤ a + b) := by omega
          have hw' : a + b ≤ 9223372036854775807 := by omega
          go_enter Try.func8, Try.ntmps8
          go_wp2
          go_ret
          exact ⟨⟨_, rfl, Or.inr (Or.inr ⟨by omega, by omega, rfl⟩)⟩, rfl⟩
        · have hw := wrap_under (a + b) (by omega) (by omega)
          go_enter Try.func8, Try.ntmps8
          go_wp2
          go_ret
          exact ⟨⟨_, rfl, Or.inr (Or.inl ⟨by omega, rfl⟩)⟩, rfl⟩
      · have h4 : a + b ≤ 9223372036854775807 := by omega
        have h5 : -9223372036854775808 ≤ a + b := by omega
        go_enter Try.func8, Try.ntmps8
        go_wp2
        go_ret
        exact ⟨⟨_, rfl, Or.inr (Or.inr ⟨by omega, by omega, rfl⟩)⟩, rfl⟩
    · have h4 : a + b ≤ 9223372036854775807 := by omega
      have h5 : -9223372036854775808 ≤ a + b := by omega
      go_enter Try.func8, Try.ntmps8
      go_wp2
      go_ret
      exact ⟨⟨_, rfl, Or.inr (Or.inr ⟨by omega, by omega, rfl⟩)⟩, rfl⟩

/-- 'ZZadd' hands 'add' out. -/
theorem zzadd_calls (a b : Int) (w : World) (ha : -9223372036854775808 ≤ a) (ha' : a ≤ 9223372036854775807)
    (hb : -9223372036854775808 ≤ b) (hb' : b ≤ 9223372036854775807) :
    Calls Try.prog 5 #[.int .i64 a, .int .i64 b] w fun e w' => (∃ r, e = .returned (.int .i64 r) ∧ IsSat a b r) ∧ w' = w := by
  go_enter Try.func5, Try.ntmps5
  go_wp2_with (go_at_call 8; refine (add_calls _ _ _ ha ha' hb hb').mono ?_; rintro e w' ⟨⟨r, rfl, hr⟩, rfl⟩)
  go_ret
  exact ⟨⟨_, rfl, hr⟩, rfl⟩

/-- 'zzSatModel' gives the exact sum, clamped. -/
theorem model_calls (a b : Int) (w : World) (ha : -9223372036854775808 ≤ a) (ha' : a ≤ 9223372036854775807)
    (hb : -9223372036854775808 ≤ b) (hb' : b ≤ 9223372036854775807) :
    Calls Try.prog 6 #[.int .i64 a, .int .i64 b] w fun e w' => (∃ r, e = .returned (.int .i64 r) ∧ IsSat a b r) ∧ w' = w := by
  by_cases h1 : 0 < b
  · have h1' : ¬ b < 0 := by omega
    by_cases h2 : 9223372036854775807 - b < a
    · go_enter Try.func6, Try.ntmps6
      go_wp2
      go_ret
      exact ⟨⟨_, rfl, Or.inl ⟨by omega, rfl⟩⟩, rfl⟩
    · have h4 : a + b ≤ 9223372036854775807 := by omega
      have h5 : -9223372036854775808 ≤ a + b := by omega
      go_enter Try.func6, Try.ntmps6
      go_wp2
      go_ret
      exact ⟨⟨_, rfl, Or.inr (Or.inr ⟨by omega, by omega, rfl⟩)⟩, rfl⟩
  · by_cases h3 : b < 0
    · by_cases h2 : a < -9223372036854775808 - b
      · go_enter Try.func6, Try.ntmps6
        go_wp2
        go_ret
        exact ⟨⟨_, rfl, Or.inr (Or.inl ⟨by omega, rfl⟩)⟩, rfl⟩
      · have h4 : a + b ≤ 9223372036854775807 := by omega
        have h5 : -9223372036854775808 ≤ a + b := by omega
        go_enter Try.func6, Try.ntmps6
        go_wp2
        go_ret
        exact ⟨⟨_, rfl, Or.inr (Or.inr ⟨by omega, by omega, rfl⟩)⟩, rfl⟩
    · have h4 : a + b ≤ 9223372036854775807 := by omega
      have h5 : -9223372036854775808 ≤ a + b := by omega
      go_enter Try.func6, Try.ntmps6
      go_wp2
      go_ret
      exact ⟨⟨_, rfl, Or.inr (Or.inr ⟨by omega, by omega, rfl⟩)⟩, rfl⟩
end Go.Proofs.Qxb6630846a.Sat
