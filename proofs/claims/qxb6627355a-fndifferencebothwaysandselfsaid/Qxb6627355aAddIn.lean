import Derived.Test.Qxb6627355aPicked
import Derived.Test.Qxb6627355aGood
namespace Go.Proofs.Qxb6627355a
open Go.RowKit

section
variable {F T : St} {LS : Nat → List Int}
theorem Gath.prod (hv : Valid T) (hg : Gath F T LS) {k : Nat} (hk : k < (addS LS).G) : (addS LS).m k * (addS LS).s k = (LS (nth (lenL LS) k)).length := by
  obtain ⟨h, hh, e, em, _⟩ := hg.at_ hv hk
  have hl := hg.len hh
  rw [em]
  show cntn T F h (T.m h) * nth (lenL LS) k = _
  rw [← e, ← hl]
  rfl
theorem Gath.setIn {w : World} {sa pa : Option Addr} (hv : Valid T) (hg : Gath F T LS) (h1 : Ints w sa (kk (lenL LS) 33) (fun k => (nth (lenL LS) k : Int))) (h2 : Rws w pa (kk (lenL LS) 33) (fun k => (LS (nth (lenL LS) k)).length) (fun k j => (LS (nth (lenL LS) k))[j]?.getD 0)) : SetIn w sa pa (addS LS) := by
  refine ⟨h1, ?_⟩
  obtain ⟨b, o, h⟩ := h2
  refine ⟨b, o, fun g hg' => ⟨(h g hg').1, ?_⟩⟩
  show Row w _ ((addS LS).m g * (addS LS).s g) _
  rw [hg.prod hv hg']
  exact (h g hg').2
theorem Gath.small (hv : Valid T) (hs : Small T) (hg : Gath F T LS) : Small (addS LS) := by
  refine ⟨?_, fun g hg' => ?_⟩
  · have := kk_le (lenL LS) 33
    show kk (lenL LS) 33 ≤ _
    omega
  · rw [hg.prod hv hg']
    exact ls_small hs hg _
theorem Gath.tots (hv : Valid T) (hg : Gath F T LS) (ht : tot T ≤ 1048576) : ∀ g, g ≤ (addS LS).G → sumTo (addS LS).m g ≤ 1048576 := by
  intro g hg'
  have h1 := sumTo_mono (addS LS).m hg'
  have h2 : sumTo (addS LS).m (addS LS).G = (remL T F (tot T)).length := hg.count hv
  have h3 := remL_length T F (tot T)
  omega
end
end Go.Proofs.Qxb6627355a
