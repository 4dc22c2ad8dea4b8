import Derived.Test.Qxb6630895aLists
import Derived.Test.Qxb6630895aDistinct
import Derived.Deep.QuietTactic
import Derived.BigQuiet
namespace Go.Proofs.Qxb6630895a
open Go.RowKit

theorem below_drewN {B : Nat} {a w : World} (h : Below B a w) (n : Nat) : Below B a (w.drewN n) := ⟨h.os, h.tape, h.output, h.size, h.block⟩

set_option maxHeartbeats 1000000 in
theorem well_calls (D : Inp) (n b bs bf : Nat) (fl : Nat → Int) (w : World) (hn : n ≤ 65536) (hN : D.N ≤ 1048576) (hx : Idx D n b bs bf fl w) :
    Calls Try.prog 14 #[.slice (some ⟨bs, 0, none⟩) (n + 1) (n + 1), .slice (some ⟨bf, 0, none⟩) (st D n) (st D n), .int .i64 (n : Int)] w (LawPost w) := by
  have b2 := st_le D n
  have b3 : n * D.N ≤ 65536 * 1048576 := Nat.mul_le_mul hn hN
  have c0 : w.cell? ⟨bs, 0, none⟩ = some (.int .i64 0) := hx.srow.cell (i := 0) (by omega)
  have cn := hx.srow.cell (i := n) (by omega)
  have hix : (n : Int) < ((n + 1 : Nat) : Int) := by omega
  go_enter Try.func14, Try.ntmps14
  go_wp2
  go_loopw [7] (fun x wr => ∃ c : Nat, c ≤ n ∧ x = .int .i64 c ∧ wr.rowIs bs 3 (n + 1) (fun k => .int .i64 (st D k : Int)) ∧ Below w.heap.size w wr) (fun x _ => n - (intOf x).toNat)
  case atStart => exact ⟨0, Nat.zero_le _, rfl, hx.srow, Below.refl _ _⟩
  case round =>
    clear c0 cn
    obtain ⟨c, hc, rfl, hrow, hb⟩ := hrel
    by_cases hlt : c < n
    · have r0 := hrow.cell (i := c) (by omega)
      have r1 := hrow.cell (i := c + 1) (by omega)
      have hm : ¬ ((st D (c + 1) : Int) < (st D c : Int)) := by
        have := st_mono D (show c ≤ c + 1 by omega)
        omega
      have i0 : (c : Int) < ((n + 1 : Nat) : Int) := by omega
      have i1 : (c : Int) + 1 < ((n + 1 : Nat) : Int) := by omega
      go_wp2
      go_quiet (fail)
      go_wp2
      go_roundw
      case rel => exact ⟨c + 1, by omega, by go_num, hrow.of_block rfl, below_drewN hb _⟩
      case measure => simp [intOf]; omega
    · go_wp2
      go_ret
      exact ⟨rfl, hb⟩
end Go.Proofs.Qxb6630895a
