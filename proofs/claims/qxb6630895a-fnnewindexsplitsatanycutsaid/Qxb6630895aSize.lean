import Derived.Test.Qxb6630895aData
namespace Go.Proofs.Qxb6630895a
open Go.RowKit

/-- Of the first k flows none has more than 2^20 paths. -/
def SizeTo (D : Inp) (k : Nat) : Prop := ∀ i, i < k → D.PN i ≤ 1048576

/-- It answers a bool; true only where there are at most 2^20 flows, each of at most 2^20 paths. -/
def SizePost (D : Inp) (w : World) (e : Ending) (w' : World) : Prop :=
  (e = .returned (.bool true) ∧ D.N ≤ 1048576 ∧ SizeTo D D.N ∨ e = .returned (.bool false)) ∧ w' = w

/-- It answers a bool. -/
def BoolPost (w : World) (e : Ending) (w' : World) : Prop :=
  (e = .returned (.bool true) ∨ e = .returned (.bool false)) ∧ w' = w

set_option maxHeartbeats 1000000 in
theorem bytes_calls (D : Inp) (s : Spots) (n : Int) (w : World) (ok : D.Ok) (ht : Top w D s) (hd : Deepr w D s) :
    Calls Try.prog 5 #[.slice s.a D.N s.cap, .int .i64 n] w (SizePost D w) := by
  have hN := ok.n
  by_cases hbig : 1048576 < (D.N : Int)
  · go_enter Try.func5, Try.ntmps5
    go_wp2
    go_ret
    exact ⟨Or.inr rfl, rfl⟩
  have hN2 : D.N ≤ 1048576 := by omega
  go_enter Try.func5, Try.ntmps5
  go_wp2
  go_loop [5, 6] (fun t i => ∃ k x : Nat, k ≤ D.N ∧ i = .int .i64 k ∧ t = .int .i64 x ∧ x ≤ 1048576 ∧ SizeTo D k) (fun _ i => D.N - (intOf i).toNat)
  case atStart => exact ⟨0, D.N, Nat.zero_le _, rfl, by first | rfl | go_num, by omega, fun i hi => absurd hi (Nat.not_lt_zero _)⟩
  case round =>
    obtain ⟨k, x, hk, rfl, rfl, hx, hgood⟩ := hrel
    by_cases hlt : k < D.N
    · have ea := ht.addr k hlt
      have hp := ht.paths k hlt
      have hpn := ok.pn k hlt
      rw [ea]
      by_cases hpb : 1048576 < (D.PN k : Int)
      · go_wp2
        go_ret
        exact ⟨Or.inr rfl, rfl⟩
      by_cases hxb : 1048576 < (x : Int) + (D.PN k : Int)
      · go_wp2
        go_ret
        exact ⟨Or.inr rfl, rfl⟩
      go_wp2
      go_loop [5, 7] (fun t i => ∃ m y : Nat, m ≤ D.PN k ∧ i = .int .i64 m ∧ t = .int .i64 y ∧ y ≤ 1048576) (fun _ i => D.PN k - (intOf i).toNat)
      case atStart => exact ⟨0, x + D.PN k, Nat.zero_le _, rfl, by go_num, by omega⟩
      case round =>
        obtain ⟨m, y, hm, rfl, rfl, hy⟩ := hrel
        by_cases hltm : m < D.PN k
        · have epa := hd.paddr k m hlt hltm
          have hpp := hd.path k m hlt hltm
          have hqn := ok.qn k m hlt hltm
          rw [epa] at hp
          by_cases hqb : 1048576 < (D.QN k m : Int)
          · go_wp2
            go_ret
            exact ⟨Or.inr rfl, rfl⟩
          by_cases hyb : 1048576 < (y : Int) + (D.QN k m : Int)
          · go_wp2
            go_ret
            exact ⟨Or.inr rfl, rfl⟩
          go_wp2
          go_round
          case rel => exact ⟨m + 1, y + D.QN k m, by omega, by go_num, by go_num, by omega⟩
          case measure => simp [intOf]; omega
        · go_wp2
          go_round
          case rel => exact ⟨k + 1, y, by omega, by go_num, rfl, by omega, fun z hz => by
                    rcases Nat.lt_succ_iff_lt_or_eq.1 hz with h | rfl
                    · exact hgood z h
                    · omega⟩
          case measure => simp [intOf]; omega
    · go_wp2
      go_ret
      exact ⟨Or.inl ⟨rfl, hN2, fun i hi => hgood i (by omega)⟩, rfl⟩

set_option maxHeartbeats 1000000 in
theorem bytes2_calls (D : Inp) (s : Spots) (n k0 : Int) (w : World) (ok : D.Ok) (ht : Top w D s) (hd : Deepr w D s) :
    Calls Try.prog 13 #[.slice s.a D.N s.cap, .int .i64 n, .int .i64 k0] w (SizePost D w) := by
  have hN := ok.n
  by_cases hbig : 1048576 < (D.N : Int)
  · go_enter Try.func13, Try.ntmps13
    go_wp2
    go_ret
    exact ⟨Or.inr rfl, rfl⟩
  have hN2 : D.N ≤ 1048576 := by omega
  go_enter Try.func13, Try.ntmps13
  go_wp2
  go_loop [7, 8] (fun t i => ∃ k x : Nat, k ≤ D.N ∧ i = .int .i64 k ∧ t = .int .i64 x ∧ x ≤ 1048576 ∧ SizeTo D k) (fun _ i => D.N - (intOf i).toNat)
  case atStart => exact ⟨0, D.N, Nat.zero_le _, rfl, by first | rfl | go_num, by omega, fun i hi => absurd hi (Nat.not_lt_zero _)⟩
  case round =>
    obtain ⟨k, x, hk, rfl, rfl, hx, hgood⟩ := hrel
    by_cases hlt : k < D.N
    · have ea := ht.addr k hlt
      have hp := ht.paths k hlt
      have hpn := ok.pn k hlt
      rw [ea]
      by_cases hpb : 1048576 < (D.PN k : Int)
      · go_wp2
        go_ret
        exact ⟨Or.inr rfl, rfl⟩
      by_cases hxb : 1048576 < (x : Int) + (D.PN k : Int)
      · go_wp2
        go_ret
        exact ⟨Or.inr rfl, rfl⟩
      go_wp2
      go_loop [7, 9] (fun t i => ∃ m y : Nat, m ≤ D.PN k ∧ i = .int .i64 m ∧ t = .int .i64 y ∧ y ≤ 1048576) (fun _ i => D.PN k - (intOf i).toNat)
      case atStart => exact ⟨0, x + D.PN k, Nat.zero_le _, rfl, by go_num, by omega⟩
      case round =>
        obtain ⟨m, y, hm, rfl, rfl, hy⟩ := hrel
        by_cases hltm : m < D.PN k
        · have epa := hd.paddr k m hlt hltm
          have hpp := hd.path k m hlt hltm
          have hqn := ok.qn k m hlt hltm
          rw [epa] at hp
          by_cases hqb : 1048576 < (D.QN k m : Int)
          · go_wp2
            go_ret
            exact ⟨Or.inr rfl, rfl⟩
          by_cases hyb : 1048576 < (y : Int) + (D.QN k m : Int)
          · go_wp2
            go_ret
            exact ⟨Or.inr rfl, rfl⟩
          go_wp2
          go_round
          case rel => exact ⟨m + 1, y + D.QN k m, by omega, by go_num, by go_num, by omega⟩
          case measure => simp [intOf]; omega
        · go_wp2
          go_round
          case rel => exact ⟨k + 1, y, by omega, by go_num, rfl, by omega, fun z hz => by
                    rcases Nat.lt_succ_iff_lt_or_eq.1 hz with h | rfl
                    · exact hgood z h
                    · omega⟩
          case measure => simp [intOf]; omega
    · go_wp2
      go_ret
      exact ⟨Or.inl ⟨rfl, hN2, fun i hi => hgood i (by omega)⟩, rfl⟩

set_option maxHeartbeats 1000000 in
theorem sizeok_calls (D : Inp) (s : Spots) (w : World) (ok : D.Ok) (ht : Top w D s) (hd : Deepr w D s) :
    Calls Try.prog 6 #[.slice s.a D.N s.cap] w (BoolPost w) := by
  have hN := ok.n
  by_cases hbig : 1048576 < (D.N : Int)
  · go_enter Try.func6, Try.ntmps6
    go_wp2
    go_ret
    exact ⟨Or.inr rfl, rfl⟩
  go_enter Try.func6, Try.ntmps6
  go_wp2
  go_loop [3, 4] (fun t i => ∃ k x : Nat, k ≤ D.N ∧ i = .int .i64 k ∧ t = .int .i64 x ∧ x ≤ 1048576) (fun _ i => D.N - (intOf i).toNat)
  case atStart => exact ⟨0, 0, Nat.zero_le _, rfl, rfl, by omega⟩
  case round =>
    obtain ⟨k, x, hk, rfl, rfl, hx⟩ := hrel
    by_cases hlt : k < D.N
    · have ea := ht.addr k hlt
      have hp := ht.paths k hlt
      have hpn := ok.pn k hlt
      rw [ea]
      by_cases hxb : 1048576 < (x : Int) + 48
      · go_wp2
        go_ret
        exact ⟨Or.inr rfl, rfl⟩
      by_cases hpb : 1048576 < (D.PN k : Int)
      · go_wp2
        go_ret
        exact ⟨Or.inr rfl, rfl⟩
      go_wp2
      go_loop [3, 6] (fun t i => ∃ m y : Nat, m ≤ D.PN k ∧ i = .int .i64 m ∧ t = .int .i64 y ∧ y ≤ 1048576) (fun _ i => D.PN k - (intOf i).toNat)
      case atStart => exact ⟨0, x + 48, Nat.zero_le _, rfl, by go_num, by omega⟩
      case round =>
        obtain ⟨m, y, hm, rfl, rfl, hy⟩ := hrel
        by_cases hltm : m < D.PN k
        · have epa := hd.paddr k m hlt hltm
          have hpp := hd.path k m hlt hltm
          have hqn := ok.qn k m hlt hltm
          rw [epa]
          by_cases hqb : 1048576 < (D.QN k m : Int)
          · go_wp2
            go_ret
            exact ⟨Or.inr rfl, rfl⟩
          by_cases hyb : 1048576 < (y : Int) + (24 + 4 * (D.QN k m : Int))
          · go_wp2
            go_ret
            exact ⟨Or.inr rfl, rfl⟩
          go_wp2
          go_round
          case rel => exact ⟨m + 1, y + (24 + 4 * D.QN k m), by omega, by go_num, by go_num, by omega⟩
          case measure => simp [intOf]; omega
        · go_wp2
          go_round
          case rel => exact ⟨k + 1, y, by omega, by go_num, rfl, by omega⟩
          case measure => simp [intOf]; omega
    · go_wp2
      go_ret
      exact ⟨Or.inl rfl, rfl⟩
end Go.Proofs.Qxb6630895a
