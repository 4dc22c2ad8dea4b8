/-
  A proof of 'Rows.FnDifferenceBothWaysAndSelfSaid'.
-/
import Derived.Test.Qxb6627355aOpen
import Derived.Test.Qxb6627355aLaw4
import Derived.ProofKit
import Derived.OpenShut
import Derived.Carry
namespace Go.Proofs.Qxb6627355a
open Go.ChangeShapes Go.WideShapes Go.ChangeAt Go.RowKit
namespace bothLaw

theorem own : ownKnob Try.prog.godebug = none := by kernel_rfl
theorem laidOut : laidOutB Try.prog = true := by kernel_rfl

set_option maxRecDepth 100000 in
theorem lifted (os : Os) (started : os.Started) (H : Type) (enc : TypeId × Value → H) :
    ReturnsInHanded {} Try.checked os 4 .any (Rows.fnDifferenceBothWaysAndSelfSpec.pre6 enc Try.prog Try.f4 Rows.fnDifferenceBothWaysAndSelfRow.domain false) (Rows.fnDifferenceBothWaysAndSelfSpec.post enc Try.prog Try.f4 false true false false) := by
  refine returnsInHanded_of_change (C := Try.checked) own started (by kernel_rfl) Try.func4
    (ChangeSpec.witness6 (enc := enc) (C := Try.checked) false ⟨#[], #[.slice none 0 0, .slice none 0 0, .slice none 0 0, .slice none 0 0], []⟩ 8 (by kernel_rfl) (by kernel_rfl) (by kernel_rfl) (by kernel_rfl)) ?_
  intro W base args ds gs before hval0 hW hcnd _
  have hval : ∀ (j : Nat) t v, Try.f4.params[j]? = some t → args[j]? = some v → Value.okWide Try.prog W .any base t v := hval0
  have hW' := hW
  obtain ⟨p, q, hA0, hV, rfl, hfz, hnd⟩ := hW
  have hA : DataW.TrodAll enc Try.prog W 0 (fun _ => true) true Try.f4.params.toList args.toList ds p := hA0
  rw [Try.params4] at hA hval
  obtain ⟨v0, vs0, d0, ds0, p0, q0, hargs, rfl, rfl, h0, r0⟩ := trodAll_cons hA
  obtain ⟨v1, vs1, d1, ds1, p1, q1, rfl, rfl, rfl, h1, r1⟩ := trodAll_cons r0
  obtain ⟨v2, vs2, d2, ds2, p2, q2, rfl, rfl, rfl, h2, r2⟩ := trodAll_cons r1
  obtain ⟨v3, vs3, d3, ds3, p3, q3, rfl, rfl, rfl, h3, r3⟩ := trodAll_cons r2
  obtain ⟨rfl, rfl, rfl⟩ := trodAll_nil r3
  obtain rfl : args = #[v0, v1, v2, v3] := by cases args; simp_all
  obtain ⟨rfl, rfl⟩ := trodVars_none hV
  obtain ⟨a1, n1, c1, Z1, rfl, i1, b1⟩ := open_sizes (okWide_slice Try.underlying22 (hval 0 22 v0 rfl rfl)) h0
  obtain ⟨a2, n2, c2, L2, X2, rfl, i2, b2, B2⟩ := open_rows (okWide_slice Try.underlying23 (hval 1 23 v1 rfl rfl)) h1
  obtain ⟨a3, n3, c3, Z3, rfl, i3, b3⟩ := open_sizes (okWide_slice Try.underlying22 (hval 2 22 v2 rfl rfl)) h2
  obtain ⟨a4, n4, c4, L4, X4, rfl, i4, b4, B4⟩ := open_rows (okWide_slice Try.underlying23 (hval 3 23 v3 rfl rfl)) h3
  clear hA0 hval0
  simp only [List.append_nil] at hW'
  refine (law4_calls (c1 := c1) (c2 := c2) (c3 := c3) (c4 := c4) i1 i2 i3 i4 b1 b2 b3 b4 B2 B4).mono fun e W' ⟨he, hg⟩ => ?_
  subst he
  have hlt : ∀ x ∈ p0 ++ (p1 ++ (p2 ++ p3)), x.block < W.heap.size := fun x hx => by simpa using hW'.lt x (by simpa using hx)
  have l0 : ∀ x ∈ p0, x.block < W.heap.size := fun x hx => hlt x (by simp [hx])
  have l1 : ∀ x ∈ p1, x.block < W.heap.size := fun x hx => hlt x (by simp [hx])
  have l2 : ∀ x ∈ p2, x.block < W.heap.size := fun x hx => hlt x (by simp [hx])
  have l3 : ∀ x ∈ p3, x.block < W.heap.size := fun x hx => hlt x (by simp [hx])
  refine ⟨_, rfl, _, _, _, [], p0 ++ (p1 ++ (p2 ++ (p3 ++ []))), [], hW', ?_, ?_, rfl, hg.frame _, fun h => by cases h⟩
  · exact trodAll_cons_mk (shut_bool Try.underlying4 _) trodAll_mk0
  · exact trodAll_cons_mk (Below.trod laidOut (by kernel_rfl) (of_decide_eq_true (by kernel_rfl)) h0 hg l0)
      (trodAll_cons_mk (Below.trod laidOut (by kernel_rfl) (of_decide_eq_true (by kernel_rfl)) h1 hg l1)
        (trodAll_cons_mk (Below.trod laidOut (by kernel_rfl) (of_decide_eq_true (by kernel_rfl)) h2 hg l2)
          (trodAll_cons_mk (Below.trod laidOut (by kernel_rfl) (of_decide_eq_true (by kernel_rfl)) h3 hg l3) trodAll_mk0)))

theorem over : Rows.fnDifferenceBothWaysAndSelfRow.holds Try.pinned (OpenSpec.ofChange Rows.fnDifferenceBothWaysAndSelfSpec) :=
  OpenClaim.holds_of_wide 4 Try.f4 rfl rfl rfl rfl rfl rfl rfl ⟨rfl, rfl, rfl, rfl, rfl⟩ rfl rfl rfl rfl rfl (by kernel_rfl) Try.func4 (by kernel_rfl)
    (of_decide_eq_true (by kernel_rfl)) (by unfold Func.isWrapper; first | (rw [if_pos (by decide +kernel)]; kernel_rfl) | (rw [if_neg (by decide +kernel)]; exact ⟨rfl, rfl⟩))
    (fun os started H enc _ => lifted os started H enc)
end bothLaw

theorem fnDifferenceBothWaysAndSelf_holds : Rows.FnDifferenceBothWaysAndSelfSaid := bothLaw.over
end Go.Proofs.Qxb6627355a
