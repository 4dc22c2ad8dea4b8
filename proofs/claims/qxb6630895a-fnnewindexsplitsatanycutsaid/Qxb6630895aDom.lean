import Derived.Test.Qxb6630895aData
namespace Go.Proofs.Qxb6630895a
open Go.RowKit

/-- Every component of flow i lies in [0, n). -/
def DomP (D : Inp) (n : Int) (i j : Nat) : Prop := ∀ q, q < D.QN i j → 0 ≤ D.C i j q ∧ D.C i j q < n
def DomF (D : Inp) (n : Int) (i : Nat) : Prop := ∀ j, j < D.PN i → DomP D n i j
def DomTo (D : Inp) (n : Int) (k : Nat) : Prop := ∀ i, i < k → DomF D n i
def DomFTo (D : Inp) (n : Int) (i k : Nat) : Prop := ∀ j, j < k → DomP D n i j
def DomPTo (D : Inp) (n : Int) (i j k : Nat) : Prop := ∀ q, q < k → 0 ≤ D.C i j q ∧ D.C i j q < n

/-- It answers a bool; true only where every component lies in [0, n). -/
def DomPost (D : Inp) (n : Int) (w : World) (e : Ending) (w' : World) : Prop :=
  (e = .returned (.bool true) ∧ DomTo D n D.N ∨ e = .returned (.bool false)) ∧ w' = w

set_option maxHeartbeats 1000000 in
theorem domain_calls (D : Inp) (s : Spots) (n : Int) (w : World) (ok : D.Ok) (ht : Top w D s) (hd : Deepr w D s) :
    Calls Try.prog 7 #[.slice s.a D.N s.cap, .int .i64 n] w (DomPost D n w) := by
  have hN := ok.n
  go_enter Try.func7, Try.ntmps7
  go_wp2
  go_loop [5] (fun i => ∃ k : Nat, k ≤ D.N ∧ i = .int .i64 k ∧ DomTo D n k) (fun i => D.N - (intOf i).toNat)
  case atStart => exact ⟨0, Nat.zero_le _, rfl, fun i hi => absurd hi (Nat.not_lt_zero _)⟩
  case round =>
    obtain ⟨k, hk, rfl, hgood⟩ := hrel
    by_cases hlt : k < D.N
    · have ea := ht.addr k hlt
      have hp := ht.paths k hlt
      have hpn := ok.pn k hlt
      rw [ea]
      go_wp2
      go_loop [7] (fun i => ∃ m : Nat, m ≤ D.PN k ∧ i = .int .i64 m ∧ DomFTo D n k m) (fun i => D.PN k - (intOf i).toNat)
      case atStart => exact ⟨0, Nat.zero_le _, rfl, fun i hi => absurd hi (Nat.not_lt_zero _)⟩
      case round =>
        obtain ⟨m, hm, rfl, hgoodf⟩ := hrel
        by_cases hltm : m < D.PN k
        · have epa := hd.paddr k m hlt hltm
          have hpp := hd.path k m hlt hltm
          have hqn := ok.qn k m hlt hltm
          rw [epa]
          go_wp2
          go_loop [9] (fun i => ∃ q : Nat, q ≤ D.QN k m ∧ i = .int .i64 q ∧ DomPTo D n k m q) (fun i => D.QN k m - (intOf i).toNat)
          case atStart => exact ⟨0, Nat.zero_le _, rfl, fun i hi => absurd hi (Nat.not_lt_zero _)⟩
          case round =>
            obtain ⟨q, hq, rfl, hgoodp⟩ := hrel
            by_cases hltq : q < D.QN k m
            · have eqa := hd.qaddr k m q hlt hltm hltq
              have hqq := hd.comp k m q hlt hltm hltq
              obtain ⟨c1, c2⟩ := ok.c k m q hlt hltm hltq
              rw [eqa]
              by_cases h0 : D.C k m q < 0
              · go_wp2
                go_ret
                exact ⟨Or.inr rfl, rfl⟩
              · by_cases h1 : n ≤ D.C k m q
                · go_wp2
                  go_ret
                  exact ⟨Or.inr rfl, rfl⟩
                · go_wp2
                  go_round
                  case rel => exact ⟨q + 1, by omega, by go_num, fun x hx => by
                    rcases Nat.lt_succ_iff_lt_or_eq.1 hx with h | rfl
                    · exact hgoodp x h
                    · omega⟩
                  case measure => simp [intOf]; omega
            · go_wp2
              go_round
              case rel => exact ⟨m + 1, by omega, by go_num, fun x hx => by
                    rcases Nat.lt_succ_iff_lt_or_eq.1 hx with h | rfl
                    · exact hgoodf x h
                    · exact fun y hy => hgoodp y (by omega)⟩
              case measure => simp [intOf]; omega
        · go_wp2
          go_round
          case rel => exact ⟨k + 1, by omega, by go_num, fun x hx => by
                    rcases Nat.lt_succ_iff_lt_or_eq.1 hx with h | rfl
                    · exact hgood x h
                    · exact fun y hy => hgoodf y (by omega)⟩
          case measure => simp [intOf]; omega
    · go_wp2
      go_ret
      exact ⟨Or.inl ⟨rfl, fun i hi => hgood i (by omega)⟩, rfl⟩
end Go.Proofs.Qxb6630895a
