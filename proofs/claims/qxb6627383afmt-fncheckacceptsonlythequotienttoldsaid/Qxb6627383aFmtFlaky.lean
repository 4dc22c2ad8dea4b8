import Derived.Test.Qxb6627383aFmtFacts
import Derived.WalkKit
namespace Go.Proofs.Qxb6627383aFmt
open Go.RowKit Go.Extern.Stop Go.Stop Go.Extern
attribute [local go_sem] Tryf.call7 Tryf.guard Tryf.fmt0 Tryf.fmt0r Tryf.op3_100 Tryf.op3_100w Tryf.strict3 Tryf.ptr34 Tryf.elem34 Tryf.isError34'

set_option maxHeartbeats 400000 in
theorem check_ne (F : Interp) (b : Nat) (x c n : Int) (w : World) (hF : F.answers w.tape)
    (h0 : w.cell? ⟨b, 0, none⟩ = some (.int .i64 x)) (h1 : w.cell? ⟨b, 1, none⟩ = some (.int .i64 c))
    (hx : 0 ≤ x) (hx' : x ≤ 32768) (hn : -1073741824 ≤ n) (hn' : n ≤ 1073741824)
    (hne : (c != n * (x + 1)) = true) :
    Calls Tryf.prog 5 #[.pointer (some ⟨b, 0, none⟩), .int .i64 n] w fun e w' => (∃ p, e = .returned (.iface 34 (.pointer (some p)))) ∧ Below w.heap.size w w' := by
  have hF' := hF
  unfold Interp.answers at hF'
  have hm1 : -35185445863424 ≤ n * (x + 1) := by
    have := Int.mul_le_mul_of_nonneg_right hn (show 0 ≤ x + 1 by omega)
    omega
  have hm2 : n * (x + 1) ≤ 35185445863424 := by
    have := Int.mul_le_mul_of_nonneg_right hn' (show 0 ≤ x + 1 by omega)
    omega
  go_enter Tryf.func5, Tryf.ntmps5
  go_wp2
  go_ret
  exact ⟨⟨_, rfl⟩, (((Below.refl _ _).alloc (Nat.le_refl _) _).alloc (by simp) _).drew⟩

set_option maxHeartbeats 400000 in
theorem check_eq (b : Nat) (x c n : Int) (w : World)
    (h0 : w.cell? ⟨b, 0, none⟩ = some (.int .i64 x)) (h1 : w.cell? ⟨b, 1, none⟩ = some (.int .i64 c))
    (hx : 0 ≤ x) (hx' : x ≤ 32768) (hn : -1073741824 ≤ n) (hn' : n ≤ 1073741824)
    (hne : (c != n * (x + 1)) = false) :
    Calls Tryf.prog 5 #[.pointer (some ⟨b, 0, none⟩), .int .i64 n] w fun e w' => e = .returned .nilIface ∧ w' = w := by
  have hm1 : -35185445863424 ≤ n * (x + 1) := by
    have := Int.mul_le_mul_of_nonneg_right hn (show 0 ≤ x + 1 by omega)
    omega
  have hm2 : n * (x + 1) ≤ 35185445863424 := by
    have := Int.mul_le_mul_of_nonneg_right hn' (show 0 ≤ x + 1 by omega)
    omega
  go_enter Tryf.func5, Tryf.ntmps5
  go_wp2
  go_ret
  exact ⟨rfl, rfl⟩

set_option maxHeartbeats 400000 in
theorem law_out (x c n : Int) (w : World) (hx : ¬ (0 ≤ x ∧ x ≤ 32768)) :
    Calls Tryf.prog 3 #[.int .i64 x, .int .i64 c, .int .i64 n] w fun e w' => e = .returned (.bool true) ∧ Below w.heap.size w w' := by
  by_cases h : x < 0
  · go_enter Tryf.func3, Tryf.ntmps3
    go_wp2
    go_ret
    exact ⟨rfl, Below.refl _ _⟩
  · have h' : 32768 < x := by omega
    clear hx
    go_enter Tryf.func3, Tryf.ntmps3
    go_wp2
    go_ret
    exact ⟨rfl, Below.refl _ _⟩

set_option maxHeartbeats 400000 in
theorem law_out2 (x c n : Int) (w : World) (hx : 0 ≤ x) (hx' : x ≤ 32768) (hc : ¬ (0 ≤ c ∧ c ≤ 1073741824)) :
    Calls Tryf.prog 3 #[.int .i64 x, .int .i64 c, .int .i64 n] w fun e w' => e = .returned (.bool true) ∧ Below w.heap.size w w' := by
  by_cases h : c < 0
  · go_enter Tryf.func3, Tryf.ntmps3
    go_wp2
    go_ret
    exact ⟨rfl, Below.refl _ _⟩
  · have h' : 1073741824 < c := by omega
    clear hc
    go_enter Tryf.func3, Tryf.ntmps3
    go_wp2
    go_ret
    exact ⟨rfl, Below.refl _ _⟩

set_option maxHeartbeats 400000 in
theorem law_out3 (x c n : Int) (w : World) (hx : 0 ≤ x) (hx' : x ≤ 32768) (hc : 0 ≤ c) (hc' : c ≤ 1073741824) (hn : ¬ (-32768 ≤ n ∧ n ≤ 32768)) :
    Calls Tryf.prog 3 #[.int .i64 x, .int .i64 c, .int .i64 n] w fun e w' => e = .returned (.bool true) ∧ Below w.heap.size w w' := by
  by_cases h : n < -32768
  · go_enter Tryf.func3, Tryf.ntmps3
    go_wp2
    go_ret
    exact ⟨rfl, Below.refl _ _⟩
  · have h' : 32768 < n := by omega
    clear hn
    go_enter Tryf.func3, Tryf.ntmps3
    go_wp2
    go_ret
    exact ⟨rfl, Below.refl _ _⟩

theorem new_calls (x c : Int) (w : World) :
    Calls Tryf.prog 4 #[.int .i64 x, .int .i64 c] w fun e w' => ∃ b, e = .returned (.pointer (some ⟨b, 0, none⟩)) ∧ w'.cell? ⟨b, 0, none⟩ = some (.int .i64 x) ∧ w'.cell? ⟨b, 1, none⟩ = some (.int .i64 c) ∧ b < w'.heap.size ∧ Below w.heap.size w w' := by
  go_enter Tryf.func4, Tryf.ntmps4
  go_wp2
  go_ret
  exact ⟨_, rfl, by simp, by simp, by simp, (Below.refl _ _).alloc (Nat.le_refl _) _⟩

theorem q_of (c d : Int) (h : c % d = 0) : c / d * d = c := by
  have h1 := Int.emod_add_mul_ediv c d
  rw [h, Int.zero_add] at h1
  rw [Int.mul_comm]
  exact h1

theorem n_of (c d n : Int) (hd : 0 < d) (h : c = n * d) : c % d = 0 ∧ n = c / d := by
  subst h
  exact ⟨Int.mul_emod_left _ _, (Int.mul_ediv_cancel _ (by omega)).symm⟩

set_option maxHeartbeats 400000 in
theorem law_in (F : Interp) (x c n : Int) (w : World) (hF : F.answers w.tape) (hx : 0 ≤ x) (hx' : x ≤ 32768) (hc : 0 ≤ c) (hc' : c ≤ 1073741824) (hn : -32768 ≤ n) (hn' : n ≤ 32768) :
    Calls Tryf.prog 3 #[.int .i64 x, .int .i64 c, .int .i64 n] w fun e w' => e = .returned (.bool true) ∧ Below w.heap.size w w' := by
  have hd : 0 < x + 1 := by omega
  have hq0 : 0 ≤ c / (x + 1) := Int.ediv_nonneg hc (by omega)
  have hq1 : c / (x + 1) ≤ c := Int.ediv_le_self _ hc
  by_cases hw : c % (x + 1) = 0
  · have eq := q_of c (x + 1) hw
    have b1 : (c % (x + 1) == 0) = true := beq_iff_eq.2 hw
    have b2 : (c != c / (x + 1) * (x + 1)) = false := by rw [eq]; simp
    by_cases hnq : n = c / (x + 1)
    · have b3 : (n == c / (x + 1)) = true := beq_iff_eq.2 hnq
      have b4 : (c != n * (x + 1)) = false := by rw [hnq, eq]; simp
      clear eq hnq hw
      go_enter Tryf.func3, Tryf.ntmps3
      go_wp2_with fail
      refine (new_calls _ _ _).mono ?_; rintro e w1 ⟨b, rfl, k0, k1, kb, bel⟩
      go_wp2_with fail
      refine (check_eq b x c n _ k0 k1 hx hx' (by omega) (by omega) b4).mono ?_; rintro e w2 ⟨rfl, rfl⟩
      go_wp2_with fail
      refine (check_eq b x c (c / (x + 1)) _ k0 k1 hx hx' (by omega) (by omega) b2).mono ?_; rintro e w3 ⟨rfl, rfl⟩
      go_wp2
      go_ret
      exact ⟨rfl, bel⟩
    · have b3 : (n == c / (x + 1)) = false := beq_eq_false_iff_ne.2 hnq
      have b4 : (c != n * (x + 1)) = true := by rw [bne_iff_ne]; intro h; exact hnq (n_of c (x + 1) n hd h).2
      clear eq hnq hw
      go_enter Tryf.func3, Tryf.ntmps3
      go_wp2_with fail
      refine (new_calls _ _ _).mono ?_; rintro e w1 ⟨b, rfl, k0, k1, kb, bel⟩
      go_wp2_with fail
      refine (check_ne F b x c n _ (by rw [bel.tape]; exact hF) k0 k1 hx hx' (by omega) (by omega) b4).mono ?_; rintro e w2 ⟨⟨p, rfl⟩, bel2⟩
      have j0 : w2.cell? ⟨b, 0, none⟩ = some (.int .i64 x) := by rw [bel2.cell kb]; exact k0
      have j1 : w2.cell? ⟨b, 1, none⟩ = some (.int .i64 c) := by rw [bel2.cell kb]; exact k1
      go_wp2_with fail
      refine (check_eq b x c (c / (x + 1)) _ j0 j1 hx hx' (by omega) (by omega) b2).mono ?_; rintro e w3 ⟨rfl, rfl⟩
      go_wp2
      go_ret
      exact ⟨rfl, bel.trans (bel2.mono bel.size)⟩
  · have b1 : (c % (x + 1) == 0) = false := beq_eq_false_iff_ne.2 hw
    have b2 : (c != c / (x + 1) * (x + 1)) = true := by rw [bne_iff_ne]; intro h; exact hw (n_of c (x + 1) _ hd h).1
    have b4 : (c != n * (x + 1)) = true := by rw [bne_iff_ne]; intro h; exact hw (n_of c (x + 1) n hd h).1
    clear hw
    go_enter Tryf.func3, Tryf.ntmps3
    go_wp2_with fail
    refine (new_calls _ _ _).mono ?_; rintro e w1 ⟨b, rfl, k0, k1, kb, bel⟩
    go_wp2_with fail
    refine (check_ne F b x c n _ (by rw [bel.tape]; exact hF) k0 k1 hx hx' (by omega) (by omega) b4).mono ?_; rintro e w2 ⟨⟨p, rfl⟩, bel2⟩
    have j0 : w2.cell? ⟨b, 0, none⟩ = some (.int .i64 x) := by rw [bel2.cell kb]; exact k0
    have j1 : w2.cell? ⟨b, 1, none⟩ = some (.int .i64 c) := by rw [bel2.cell kb]; exact k1
    have bel3 := bel.trans (bel2.mono bel.size)
    go_wp2_with fail
    refine (check_ne F b x c (c / (x + 1)) _ (by rw [bel3.tape]; exact hF) j0 j1 hx hx' (by omega) (by omega) b2).mono ?_; rintro e w3 ⟨⟨p', rfl⟩, bel4⟩
    go_wp2
    go_ret
    exact ⟨rfl, bel3.trans (bel4.mono bel3.size)⟩

theorem law_all (F : Interp) (x c n : Int) (w : World) (hF : F.answers w.tape) :
    Calls Tryf.prog 3 #[.int .i64 x, .int .i64 c, .int .i64 n] w fun e w' => e = .returned (.bool true) ∧ Below w.heap.size w w' := by
  by_cases h1 : 0 ≤ x ∧ x ≤ 32768
  · by_cases h2 : 0 ≤ c ∧ c ≤ 1073741824
    · by_cases h3 : -32768 ≤ n ∧ n ≤ 32768
      · exact law_in F x c n w hF h1.1 h1.2 h2.1 h2.2 h3.1 h3.2
      · exact law_out3 x c n w h1.1 h1.2 h2.1 h2.2 h3
    · exact law_out2 x c n w h1.1 h1.2 h2
  · exact law_out x c n w h1
end Go.Proofs.Qxb6627383aFmt
