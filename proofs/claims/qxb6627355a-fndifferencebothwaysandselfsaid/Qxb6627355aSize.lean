import Derived.Test.Qxb6627355aHas
namespace Go.Proofs.Qxb6627355a
open Go.RowKit

/-- It answers a bool. -/
def AnyBool (w : World) (e : Ending) (w' : World) : Prop := (e = .returned (.bool true) ∨ e = .returned (.bool false)) ∧ w' = w

set_option maxHeartbeats 2000000 in
theorem zzbytes_calls {w : World} {a1 a2 a3 a4 : Option Addr} {n1 n2 n3 n4 c1 c2 c3 c4 : Nat} {LL2 LL4 : Nat → Nat} {X2 X4 : Nat → Nat → Int} (h2 : Rws w a2 n2 LL2 X2) (h4 : Rws w a4 n4 LL4 X4)
    (b1 : n1 ≤ 9223372036854775807) (b2 : n2 ≤ 9223372036854775807) (b3 : n3 ≤ 9223372036854775807) (b4 : n4 ≤ 9223372036854775807) (hL2 : ∀ g, g < n2 → LL2 g ≤ 9223372036854775807) (hL4 : ∀ g, g < n4 → LL4 g ≤ 9223372036854775807) :
    Calls Try.prog 5 #[.slice a1 n1 c1, .slice a2 n2 c2, .slice a3 n3 c3, .slice a4 n4 c4] w (AnyBool w) := by
  obtain ⟨rb2, ro2, hr2⟩ := h2
  obtain ⟨rb4, ro4, hr4⟩ := h4
  by_cases h1 : 1048576 < (n1 : Int)
  · go_enter Try.func5, Try.ntmps5
    go_wp2
    go_ret
    exact ⟨Or.inr rfl, rfl⟩
  by_cases h2 : 1048576 < (n2 : Int)
  · go_enter Try.func5, Try.ntmps5
    go_wp2
    go_ret
    exact ⟨Or.inr rfl, rfl⟩
  by_cases h3 : 1048576 < (n1 : Int) + (n2 : Int)
  · go_enter Try.func5, Try.ntmps5
    go_wp2
    go_ret
    exact ⟨Or.inr rfl, rfl⟩
  go_enter Try.func5, Try.ntmps5
  go_wp2
  go_loop [9, 10] (fun t i => ∃ k x : Nat, k ≤ n2 ∧ i = .int .i64 k ∧ t = .int .i64 x ∧ x ≤ 1048576) (fun _ i => n2 - (intOf i).toNat)
  case atStart => exact ⟨0, n1 + n2, Nat.zero_le _, rfl, by first | rfl | go_num, by omega⟩
  case round =>
    obtain ⟨k, x, hk, rfl, rfl, hx⟩ := hrel
    by_cases hlt : k < n2
    · obtain ⟨rfl, A, C, k2, _⟩ := hr2 k hlt
      have hl := hL2 k hlt
      by_cases hq : 1048576 < (LL2 k : Int)
      · go_wp2
        go_ret
        exact ⟨Or.inr rfl, rfl⟩
      by_cases hy : 1048576 < (x : Int) + (LL2 k : Int)
      · go_wp2
        go_ret
        exact ⟨Or.inr rfl, rfl⟩
      go_wp2
      go_round
      case rel => exact ⟨k + 1, x + LL2 k, by omega, by go_num, by go_num, by omega⟩
      case measure => simp [intOf]; omega
    · by_cases h4 : 1048576 < (n3 : Int)
      · go_wp2
        go_ret
        exact ⟨Or.inr rfl, rfl⟩
      by_cases h5 : 1048576 < (x : Int) + (n3 : Int)
      · go_wp2
        go_ret
        exact ⟨Or.inr rfl, rfl⟩
      by_cases h6 : 1048576 < (n4 : Int)
      · go_wp2
        go_ret
        exact ⟨Or.inr rfl, rfl⟩
      by_cases h7 : 1048576 < (x : Int) + (n3 : Int) + (n4 : Int)
      · go_wp2
        go_ret
        exact ⟨Or.inr rfl, rfl⟩
      go_wp2
      go_loop [9, 11] (fun t i => ∃ k x : Nat, k ≤ n4 ∧ i = .int .i64 k ∧ t = .int .i64 x ∧ x ≤ 1048576) (fun _ i => n4 - (intOf i).toNat)
      case atStart => exact ⟨0, x + n3 + n4, Nat.zero_le _, rfl, by first | rfl | go_num, by omega⟩
      case round =>
        obtain ⟨k, x, hk, rfl, rfl, hx⟩ := hrel
        by_cases hlt : k < n4
        · obtain ⟨rfl, A, C, k2, _⟩ := hr4 k hlt
          have hl := hL4 k hlt
          by_cases hq : 1048576 < (LL4 k : Int)
          · go_wp2
            go_ret
            exact ⟨Or.inr rfl, rfl⟩
          by_cases hy : 1048576 < (x : Int) + (LL4 k : Int)
          · go_wp2
            go_ret
            exact ⟨Or.inr rfl, rfl⟩
          go_wp2
          go_round
          case rel => exact ⟨k + 1, x + LL4 k, by omega, by go_num, by go_num, by omega⟩
          case measure => simp [intOf]; omega
        · go_wp2
          go_ret
          exact ⟨Or.inl rfl, rfl⟩



set_option maxHeartbeats 2000000 in
theorem zzbytes2_calls {w : World} {a1 a2 a3 a4 : Option Addr} {n1 n2 n3 n4 c1 c2 c3 c4 : Nat} {LL2 LL4 : Nat → Nat} {X2 X4 : Nat → Nat → Int} (h2 : Rws w a2 n2 LL2 X2) (h4 : Rws w a4 n4 LL4 X4)
    (b1 : n1 ≤ 9223372036854775807) (b2 : n2 ≤ 9223372036854775807) (b3 : n3 ≤ 9223372036854775807) (b4 : n4 ≤ 9223372036854775807) (hL2 : ∀ g, g < n2 → LL2 g ≤ 9223372036854775807) (hL4 : ∀ g, g < n4 → LL4 g ≤ 9223372036854775807) :
    Calls Try.prog 19 #[.slice a1 n1 c1, .slice a2 n2 c2, .slice a3 n3 c3, .slice a4 n4 c4] w (AnyBool w) := by
  obtain ⟨rb2, ro2, hr2⟩ := h2
  obtain ⟨rb4, ro4, hr4⟩ := h4
  by_cases h1 : 1048576 < (n1 : Int)
  · go_enter Try.func19, Try.ntmps19
    go_wp2
    go_ret
    exact ⟨Or.inr rfl, rfl⟩
  by_cases h2 : 1048576 < (n2 : Int)
  · go_enter Try.func19, Try.ntmps19
    go_wp2
    go_ret
    exact ⟨Or.inr rfl, rfl⟩
  by_cases h3 : 1048576 < (n1 : Int) + (n2 : Int)
  · go_enter Try.func19, Try.ntmps19
    go_wp2
    go_ret
    exact ⟨Or.inr rfl, rfl⟩
  go_enter Try.func19, Try.ntmps19
  go_wp2
  go_loop [9, 10] (fun t i => ∃ k x : Nat, k ≤ n2 ∧ i = .int .i64 k ∧ t = .int .i64 x ∧ x ≤ 1048576) (fun _ i => n2 - (intOf i).toNat)
  case atStart => exact ⟨0, n1 + n2, Nat.zero_le _, rfl, by first | rfl | go_num, by omega⟩
  case round =>
    obtain ⟨k, x, hk, rfl, rfl, hx⟩ := hrel
    by_cases hlt : k < n2
    · obtain ⟨rfl, A, C, k2, _⟩ := hr2 k hlt
      have hl := hL2 k hlt
      by_cases hq : 1048576 < (LL2 k : Int)
      · go_wp2
        go_ret
        exact ⟨Or.inr rfl, rfl⟩
      by_cases hy : 1048576 < (x : Int) + (LL2 k : Int)
      · go_wp2
        go_ret
        exact ⟨Or.inr rfl, rfl⟩
      go_wp2
      go_round
      case rel => exact ⟨k + 1, x + LL2 k, by omega, by go_num, by go_num, by omega⟩
      case measure => simp [intOf]; omega
    · by_cases h4 : 1048576 < (n3 : Int)
      · go_wp2
        go_ret
        exact ⟨Or.inr rfl, rfl⟩
      by_cases h5 : 1048576 < (x : Int) + (n3 : Int)
      · go_wp2
        go_ret
        exact ⟨Or.inr rfl, rfl⟩
      by_cases h6 : 1048576 < (n4 : Int)
      · go_wp2
        go_ret
        exact ⟨Or.inr rfl, rfl⟩
      by_cases h7 : 1048576 < (x : Int) + (n3 : Int) + (n4 : Int)
      · go_wp2
        go_ret
        exact ⟨Or.inr rfl, rfl⟩
      go_wp2
      go_loop [9, 11] (fun t i => ∃ k x : Nat, k ≤ n4 ∧ i = .int .i64 k ∧ t = .int .i64 x ∧ x ≤ 1048576) (fun _ i => n4 - (intOf i).toNat)
      case atStart => exact ⟨0, x + n3 + n4, Nat.zero_le _, rfl, by first | rfl | go_num, by omega⟩
      case round =>
        obtain ⟨k, x, hk, rfl, rfl, hx⟩ := hrel
        by_cases hlt : k < n4
        · obtain ⟨rfl, A, C, k2, _⟩ := hr4 k hlt
          have hl := hL4 k hlt
          by_cases hq : 1048576 < (LL4 k : Int)
          · go_wp2
            go_ret
            exact ⟨Or.inr rfl, rfl⟩
          by_cases hy : 1048576 < (x : Int) + (LL4 k : Int)
          · go_wp2
            go_ret
            exact ⟨Or.inr rfl, rfl⟩
          go_wp2
          go_round
          case rel => exact ⟨k + 1, x + LL4 k, by omega, by go_num, by go_num, by omega⟩
          case measure => simp [intOf]; omega
        · go_wp2
          go_ret
          exact ⟨Or.inl rfl, rfl⟩



/-- What zzBytesOf tells where it stays within the bound. -/
def OfPost (n1 n2 : Nat) (L : Nat → Nat) (w : World) (e : Ending) (w' : World) : Prop :=
  (∃ r : Int, e = .returned (.int .i64 r) ∧ 0 ≤ r ∧ (r ≤ 1048576 → n1 ≤ 131072 ∧ n2 ≤ 131072 ∧ sumTo L n2 ≤ 1048576)) ∧ w' = w
theorem of_big {n1 n2 : Nat} {L : Nat → Nat} {w : World} {r : Int} (h : 1048576 < r) : OfPost n1 n2 L w (.returned (.int .i64 r)) w := ⟨⟨r, rfl, by omega, fun h' => by omega⟩, rfl⟩

set_option maxHeartbeats 1000000 in
theorem bytesof_calls {w : World} {a1 a2 : Option Addr} {n1 n2 c1 c2 : Nat} {L : Nat → Nat} {X : Nat → Nat → Int} (acc : Int) (h2 : Rws w a2 n2 L X)
    (b1 : n1 ≤ 9223372036854775807) (b2 : n2 ≤ 9223372036854775807) (hL : ∀ g, g < n2 → L g ≤ 9223372036854775807) (ha : 0 ≤ acc) (ha' : acc ≤ 1048576) :
    Calls Try.prog 6 #[.slice a1 n1 c1, .slice a2 n2 c2, .int .i64 acc] w (OfPost n1 n2 L w) := by
  obtain ⟨rb, ro, hr⟩ := h2
  by_cases h1 : 131072 < (n1 : Int)
  · go_enter Try.func6, Try.ntmps6
    go_wp2
    go_ret
    exact of_big (by omega)
  by_cases h2 : 131072 < (n2 : Int)
  · go_enter Try.func6, Try.ntmps6
    go_wp2
    go_ret
    exact of_big (by omega)
  by_cases h3 : 1048576 < acc + 8 * (n1 : Int)
  · go_enter Try.func6, Try.ntmps6
    go_wp2
    go_ret
    exact of_big (by omega)
  by_cases h4 : 1048576 < acc + 8 * (n1 : Int) + 8 * (n2 : Int)
  · go_enter Try.func6, Try.ntmps6
    go_wp2
    go_ret
    exact of_big (by omega)
  go_enter Try.func6, Try.ntmps6
  go_wp2
  go_loop [2, 7] (fun t i => ∃ k x : Nat, k ≤ n2 ∧ i = .int .i64 k ∧ t = .int .i64 x ∧ x ≤ 1048576 ∧ sumTo L k ≤ x) (fun _ i => n2 - (intOf i).toNat)
  case atStart => exact ⟨0, (acc + 8 * (n1 : Int) + 8 * (n2 : Int)).toNat, Nat.zero_le _, rfl, by go_num, by omega, Nat.zero_le _⟩
  case round =>
    obtain ⟨k, x, hk, rfl, rfl, hx, hsum⟩ := hrel
    by_cases hlt : k < n2
    · obtain ⟨rfl, A, C, k2, _⟩ := hr k hlt
      have hl := hL k hlt
      by_cases hq : 1048576 < (L k : Int)
      · go_wp2
        go_ret
        exact of_big (by omega)
      by_cases hy : 1048576 < (x : Int) + (L k : Int)
      · go_wp2
        go_ret
        exact of_big (by omega)
      go_wp2
      go_round
      case rel => exact ⟨k + 1, x + L k, by omega, by go_num, by go_num, by omega, by simp only [sumTo]; omega⟩
      case measure => simp [intOf]; omega
    · obtain rfl : k = n2 := by omega
      go_wp2
      go_ret
      exact ⟨⟨_, rfl, by omega, fun _ => ⟨by omega, by omega, by omega⟩⟩, rfl⟩
end Go.Proofs.Qxb6627355a
