/-
  A proof of 'Rows.FnAddUndoneByNegationSaid'. The frame is the kit's shell for this function; the plain laws and the walk are filled by hand.
-/
import Derived.Test.Qxb6630846aRows
import Derived.WalkKit
import Derived.ProofKit
import Derived.OpenShut
import Derived.ShutString
import Derived.Test.Qxb6630846aSat
namespace Go.Proofs.Qxb6630846a.fnAddUndoneByNegation
open Go.ChangeShapes Go.WideShapes Go.ChangeAt Go.RowKit
open Go.ChangeMaps (open_string shut_string)
set_option linter.unusedVariables false      -- a walk need not use every 'w<i>' (that an integer argument fits its kind)

theorem own : ownKnob Try.prog.godebug = none := by kernel_rfl

/-! ### STEP 1: THE WALK: the Go text returns true. 'Grown w w'': the world has at most new blocks (Derived/RowKit3.lean). Part the cases AHEAD of 'go_enter' where a test parts the walk; take each callee by a contract of your own. -/
/-- What 'zzUndoModel' gives. -/
def IsUndo (a b u : Int) : Prop :=
  (b = -9223372036854775808 ∧ u = -9223372036854775808) ∨
  (0 < b ∧ 9223372036854775807 - b < a ∧ u = 9223372036854775807 - b) ∨
  (0 < b ∧ a ≤ 9223372036854775807 - b ∧ u = a) ∨
  (b ≠ -9223372036854775808 ∧ b < 0 ∧ a < -9223372036854775808 - b ∧ u = -9223372036854775808 - b) ∨
  (b ≠ -9223372036854775808 ∧ b < 0 ∧ -9223372036854775808 - b ≤ a ∧ u = a) ∨
  (b = 0 ∧ u = a)

theorem undo_calls (a b : Int) (w : World) (ha : -9223372036854775808 ≤ a) (ha' : a ≤ 9223372036854775807)
    (hb : -9223372036854775808 ≤ b) (hb' : b ≤ 9223372036854775807) :
    Calls Try.prog 7 #[.int .i64 a, .int .i64 b] w fun e w' => (∃ r, e = .returned (.int .i64 r) ∧ IsUndo a b r) ∧ w' = w := by
  by_cases h0 : b = -9223372036854775808
  · have H0 : Hid (b = -9223372036854775808) := h0
    have e0 : (b == -9223372036854775808) = true := beq_iff_eq.2 h0
    clear h0
    go_enter Try.func7, Try.ntmps7
    go_wp2
    go_ret
    exact ⟨⟨_, rfl, Or.inl ⟨H0.out, rfl⟩⟩, rfl⟩
  have e0 : (b == -9223372036854775808) = false := beq_eq_false_iff_ne.2 h0
  by_cases h1 : 0 < b
  · by_cases h2 : 9223372036854775807 - b < a
    · go_enter Try.func7, Try.ntmps7
      go_wp2
      go_ret
      exact ⟨⟨_, rfl, by unfold IsUndo; omega⟩, rfl⟩
    · go_enter Try.func7, Try.ntmps7
      go_wp2
      go_ret
      exact ⟨⟨_, rfl, by unfold IsUndo; omega⟩, rfl⟩
  · by_cases h3 : b < 0
    · by_cases h2 : a < -9223372036854775808 - b
      · go_enter Try.func7, Try.ntmps7
        go_wp2
        go_ret
        exact ⟨⟨_, rfl, by unfold IsUndo; omega⟩, rfl⟩
      · go_enter Try.func7, Try.ntmps7
        go_wp2
        go_ret
        exact ⟨⟨_, rfl, by unfold IsUndo; omega⟩, rfl⟩
    · go_enter Try.func7, Try.ntmps7
      go_wp2
      go_ret
      exact ⟨⟨_, rfl, by unfold IsUndo; omega⟩, rfl⟩

theorem neg_range (b : Int) : -9223372036854775808 ≤ wrap64 (-b) ∧ wrap64 (-b) ≤ 9223372036854775807 := by
  unfold wrap64; omega

theorem undone {a b s t u : Int} (hs : Sat.IsSat a b s) (ht : Sat.IsSat s (wrap64 (-b)) t) (hu : IsUndo a b u)
    (ha : -9223372036854775808 ≤ a ∧ a ≤ 9223372036854775807) (hb : -9223372036854775808 ≤ b ∧ b ≤ 9223372036854775807) : u = t := by
  unfold Sat.IsSat at hs ht
  unfold IsUndo at hu
  unfold wrap64 at ht
  omega

theorem up {a b s : Int} (hs : Sat.IsSat a b s) (h : 0 < b) (h' : a < 9223372036854775807) : a < s := by
  unfold Sat.IsSat at hs; omega
theorem down {a b s : Int} (hs : Sat.IsSat a b s) (h : b < 0) (h' : -9223372036854775808 < a) : s < a := by
  unfold Sat.IsSat at hs; omega
theorem stay {a b s : Int} (hs : Sat.IsSat a b s) (h : b = 0) (h' : -9223372036854775808 ≤ a ∧ a ≤ 9223372036854775807) : s = a := by
  unfold Sat.IsSat at hs; omega

theorem walk (a0 : Int) (a1 : Int) (w0 : (Lit.int .i64 a0).wf = true) (w1 : (Lit.int .i64 a1).wf = true) (w : World) :
    Calls Try.prog 4 #[.int .i64 a0, .int .i64 a1] w fun e w' => e = .returned (.bool true) ∧ Grown w w' := by
  have B0 := bounds_i64 w0
  have B1 := bounds_i64 w1
  obtain ⟨l0, u0⟩ := id B0
  obtain ⟨l1, u1⟩ := id B1
  obtain ⟨l2, u2⟩ := neg_range a1
  clear w0 w1
  go_enter Try.func4, Try.ntmps4
  go_wp2_with fail
  refine (Sat.zzadd_calls _ _ _ l0 u0 l1 u1).mono ?_; rintro e w' ⟨⟨s, rfl, hs⟩, rfl⟩
  obtain ⟨ls, us⟩ := hs.range
  go_wp2_with fail
  refine (Sat.zzadd_calls _ _ _ ls us l2 u2).mono ?_; rintro e w' ⟨⟨t, rfl, ht⟩, rfl⟩
  go_wp2_with fail
  refine (undo_calls _ _ _ l0 u0 l1 u1).mono ?_; rintro e w' ⟨⟨u, rfl, hu⟩, rfl⟩
  obtain rfl := undone hs ht hu B0 B1
  by_cases c1 : 0 < a1
  · have n1 : ¬ a1 < 0 := by omega
    have n2 : (a1 == 0) = false := beq_eq_false_iff_ne.2 (by omega)
    by_cases c2 : a0 < 9223372036854775807
    · have c3 := up hs c1 c2
      go_wp2
      go_ret
      exact ⟨rfl, by repeat (first | exact Grown.refl _ | apply Grown.drew | apply Grown.alloc)⟩
    · go_wp2
      go_ret
      exact ⟨rfl, by repeat (first | exact Grown.refl _ | apply Grown.drew | apply Grown.alloc)⟩
  · by_cases c4 : a1 < 0
    · have n2 : (a1 == 0) = false := beq_eq_false_iff_ne.2 (by omega)
      by_cases c2 : -9223372036854775808 < a0
      · have c3 := down hs c4 c2
        go_wp2
        go_ret
        exact ⟨rfl, by repeat (first | exact Grown.refl _ | apply Grown.drew | apply Grown.alloc)⟩
      · go_wp2
        go_ret
        exact ⟨rfl, by repeat (first | exact Grown.refl _ | apply Grown.drew | apply Grown.alloc)⟩
    · obtain rfl : a1 = 0 := by omega
      obtain rfl : s = a0 := stay hs rfl B0
      go_wp2
      go_ret
      exact ⟨rfl, by repeat (first | exact Grown.refl _ | apply Grown.drew | apply Grown.alloc)⟩

/-! ### THE ROW's STEP: WRITTEN OUT: LEAVE IT -/
set_option maxRecDepth 100000 in
theorem lifted (os : Os) (started : os.Started) (H : Type) (enc : TypeId × Value → H) :
    ReturnsInHanded {} Try.checked os 4 .any (Rows.fnAddUndoneByNegationSpec.pre6 enc Try.prog Try.f4 Rows.fnAddUndoneByNegationRow.domain false) (Rows.fnAddUndoneByNegationSpec.post enc Try.prog Try.f4 false true false false) := by
  refine returnsInHanded_of_change (C := Try.checked) own started (by kernel_rfl) Try.func4
    (ChangeSpec.witness6 (enc := enc) (C := Try.checked) false ⟨#[], #[.int .i64 0, .int .i64 0], []⟩ 8 (by kernel_rfl) (by kernel_rfl) (by kernel_rfl) (by kernel_rfl)) ?_
  intro W base args ds gs before hval0 hW hcnd _
  have hval : ∀ (j : Nat) t v, Try.f4.params[j]? = some t → args[j]? = some v → Value.okWide Try.prog W .any base t v := hval0
  have hW' := hW
  obtain ⟨p, q, hA0, hV, rfl, hfz, hnd⟩ := hW
  have hA : DataW.TrodAll enc Try.prog W 0 (fun _ => true) true Try.f4.params.toList args.toList ds p := hA0
  rw [Try.params4] at hA hval
  obtain ⟨v0, vs0, d0, ds0, p0, q0, hargs, rfl, rfl, h0, r0⟩ := trodAll_cons hA
  obtain ⟨v1, vs1, d1, ds1, p1, q1, rfl, rfl, rfl, h1, r1⟩ := trodAll_cons r0
  obtain ⟨rfl, rfl, rfl⟩ := trodAll_nil r1
  obtain rfl : args = #[v0, v1] := by cases args; simp_all
  obtain ⟨rfl, rfl⟩ := trodVars_none hV
  obtain ⟨a0, rfl, rfl, rfl, w0⟩ := open_int Try.underlying2 (hval 0 2 v0 rfl rfl) h0
  obtain ⟨a1, rfl, rfl, rfl, w1⟩ := open_int Try.underlying2 (hval 1 2 v1 rfl rfl) h1
  clear hA0 hval0
  simp only [List.append_nil] at hW'
  refine (walk a0 a1 w0 w1 W).mono fun e W' ⟨he, hg⟩ => ?_
  subst he
  exact ⟨_, rfl, post_of_same (pa := []) (pv := []) hW' (fun _ _ _ => (trodAll_cons_mk (shut_bool Try.underlying4 _) trodAll_mk0)) (fun sp _ => (trodAll_cons_mk (shut_int Try.underlying2 w0) (trodAll_cons_mk (shut_int Try.underlying2 w1) trodAll_mk0))) (fun _ _ => rfl) rfl
    (hg.frame _) hg.2.1 (ok_one (by kernel_rfl) rfl (okWide_bool_mk Try.underlying4 _))⟩

theorem over : Rows.fnAddUndoneByNegationRow.holds Try.pinned (OpenSpec.ofChange Rows.fnAddUndoneByNegationSpec) :=
  OpenClaim.holds_of_wide 4 Try.f4 rfl rfl rfl rfl rfl rfl rfl ⟨rfl, rfl, rfl, rfl, rfl⟩ rfl rfl rfl rfl rfl (by kernel_rfl) Try.func4 (by kernel_rfl)
    (of_decide_eq_true (by kernel_rfl)) (by unfold Func.isWrapper; first | (rw [if_pos (by decide +kernel)]; kernel_rfl) | (rw [if_neg (by decide +kernel)]; exact ⟨rfl, rfl⟩))
    (fun os started H enc _ => lifted os started H enc)

/-- ████ THE STATEMENT ████ -/
theorem proved : Rows.FnAddUndoneByNegationSaid :=
  over
end Go.Proofs.Qxb6630846a.fnAddUndoneByNegation

namespace Go.Proofs.Qxb6630846a
/-- The given statement, under a short name. -/
theorem fnAddUndoneByNegation_holds : Rows.FnAddUndoneByNegationSaid := fnAddUndoneByNegation.proved
end Go.Proofs.Qxb6630846a
