import Derived.Test.Qxb6630895aData
namespace Go.Proofs.Qxb6630895a
open Go.RowKit

def NoneP (D : Inp) (f j : Nat) (c : Int) (k : Nat) : Prop := ∀ q, q < k → D.C f j q ≠ c
def NoneF (D : Inp) (f : Nat) (c : Int) (k : Nat) : Prop := ∀ j, j < k → NoneP D f j c (D.QN f j)

theorem hasF_none {D : Inp} {f : Nat} {c : Int} (h : NoneF D f c (D.PN f)) : hasF D f c = false := by
  cases e : hasF D f c with
  | false => rfl
  | true =>
    obtain ⟨j, q, hj, hq, e⟩ := hasF_elim e
    exact absurd e (h j hj q hq)

/-- The struct's own copy, and nothing old has turned. -/
structure Boxed (w wr : World) (D : Inp) (s : Spots) (i : Nat) : Prop where
  paths : wr.cell? ⟨w.heap.size, 2, none⟩ = some (.slice (s.PA i) (D.PN i) (s.PC i))
  below : Below w.heap.size w wr

/-- What a reader of a flow answers. -/
def HasPost (D : Inp) (f : Nat) (c : Int) (w : World) (e : Ending) (w' : World) : Prop :=
  e = .returned (.bool (hasF D f c)) ∧ Below w.heap.size w w'

set_option maxHeartbeats 1000000 in
theorem has_calls (D : Inp) (s : Spots) (i : Nat) (hi : i < D.N) (c : Int) (w : World) (ok : D.Ok) (hd : Deepr w D s) :
    Calls Try.prog 12 #[.agg #[.int .i64 (s.S i), .int .i64 (s.Bd i), .slice (s.PA i) (D.PN i) (s.PC i), .bool (s.Li i)], .int .i32 c] w (HasPost D i c w) := by
  have hpn := ok.pn i hi
  go_enter Try.func12, Try.ntmps12
  go_wp2
  go_loopw [5] (fun x wr => ∃ k : Nat, k ≤ D.PN i ∧ x = .int .i64 k ∧ Boxed w wr D s i ∧ NoneF D i c k) (fun x _ => D.PN i - (intOf x).toNat)
  case atStart => exact ⟨0, Nat.zero_le _, rfl, ⟨by simp, (Below.refl _ _).alloc (Nat.le_refl _) _⟩, fun i hi => absurd hi (Nat.not_lt_zero _)⟩
  case round =>
    obtain ⟨k, hk, rfl, hbox, hnone⟩ := hrel
    have hp := hbox.paths
    by_cases hlt : k < D.PN i
    · have epa := hd.paddr i k hi hlt
      have hpp := (hd.below hbox.below).path i k hi hlt
      have hqn := ok.qn i k hi hlt
      rw [epa] at hp
      go_wp2
      go_loop [7] (fun x => ∃ q : Nat, q ≤ D.QN i k ∧ x = .int .i64 q ∧ NoneP D i k c q) (fun x => D.QN i k - (intOf x).toNat)
      case atStart => exact ⟨0, Nat.zero_le _, rfl, fun i hi => absurd hi (Nat.not_lt_zero _)⟩
      case round =>
        obtain ⟨q, hq, rfl, hnonep⟩ := hrel
        by_cases hltq : q < D.QN i k
        · have eqa := hd.qaddr i k q hi hlt hltq
          have hqq := (hd.below hbox.below).comp i k q hi hlt hltq
          rw [eqa]
          by_cases hc : D.C i k q = c
          · have hcb : (D.C i k q == c) = true := beq_iff_eq.2 hc
            have hyes : Hid (hasF D i c = true) := hc ▸ hasF_of hlt hltq
            clear hc
            go_wp2
            go_ret
            exact ⟨by rw [hyes.out]; rfl, hbox.below⟩
          · have hcb : (D.C i k q == c) = false := beq_eq_false_iff_ne.2 hc
            go_wp2
            go_round
            case rel => exact ⟨q + 1, by omega, by go_num, fun x hx => by
                  rcases Nat.lt_succ_iff_lt_or_eq.1 hx with h | rfl
                  · exact hnonep x h
                  · exact hc⟩
            case measure => simp [intOf]; omega
        · go_wp2
          go_roundw
          case rel => exact ⟨k + 1, by omega, by go_num, hbox, fun x hx => by
                  rcases Nat.lt_succ_iff_lt_or_eq.1 hx with h | rfl
                  · exact hnone x h
                  · exact fun y hy => hnonep y (by omega)⟩
          case measure => simp [intOf]; omega
    · go_wp2
      go_ret
      exact ⟨by rw [hasF_none (fun j hj => hnone j (by omega))]; rfl, hbox.below⟩
end Go.Proofs.Qxb6630895a
