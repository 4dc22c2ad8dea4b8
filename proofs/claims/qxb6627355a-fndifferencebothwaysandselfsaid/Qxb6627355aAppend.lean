/-
  An append to a slice that the call owns: what it leaves owned lies in the same block, or in a new one.
-/
import Derived.Test.Qxb6627355aClone
import Derived.Deep.RegionLaw
namespace Go.Proofs.Qxb6627355a
open Go.RowKit

theorem run_append_apart (w : World) (base : Nat) (t ty e : TypeId) (i : TypeInfo) (z : Value) (size bytes : Nat) (ht : Try.prog.underlying t = some (.slice e)) (hi : Try.prog.info? e = some i) (hz : i.zero = some z)
    (hsize : i.size = size) (hby : i.bytes = bytes) (hzs : z.cells.size = size) (hsz : 0 < size)
    (v : Value) (n : Nat) (xs : List Value) (hown : w.ownsRow base e size v n xs)
    (a : Addr) (m c : Nat) (news : List Value) (hl : news.length = m * size) (hnews : ∀ j u, news[j]? = some u → w.cell? (a.add j) = some u) (h1 : ∀ u ∈ news, u.oneCell' = true)
    (h63 : n + m ≤ maxLen) (hbytes : (n + m) * bytes ≤ 140737488355328) (hbase : base ≤ w.heap.size) :
    ∃ v' w', (Builtin.append_ #[t, t] ty #[v, .slice (some a) m c]).run Try.prog w = .ok v' w' ∧ w'.ownsRow base e size v' (n + m) (xs ++ news) ∧ w.grownBy w' v.ownBlock ∧
      (v'.ownBlock = v.ownBlock ∨ ∃ g, v'.ownBlock = some g ∧ w.heap.size ≤ g) := by
  obtain ⟨v', w', hr, ho, hg, hn⟩ := run_append_own (P := Try.prog) w base t ty e i z size bytes ht hi hz hsize hby hzs hsz v n xs hown a m c news hl hnews h1 h63 hbytes hbase
  refine ⟨v', w', hr, ho, hg, ?_⟩
  rcases hown with ⟨hxl, ⟨rfl, rfl⟩ | ⟨g, cap, cur, rfl, hbg, hh, hnc, hcm, hcs, htk⟩⟩
  · have hxs : xs = [] := List.eq_nil_of_length_eq_zero (by simpa using hxl)
    subst hxs
    obtain ⟨v2, w2, hr2, ho2, _, _⟩ := run_append_own (P := Try.prog) w w.heap.size t ty e i z size bytes ht hi hz hsize hby hzs hsz (.slice none 0 0) 0 [] (World.ownsRow_nil w _ e size) a m c news hl hnews h1 h63 hbytes (Nat.le_refl _)
    rw [hr] at hr2
    cases hr2
    rcases ho2.2 with ⟨rfl, _⟩ | ⟨g', cap', cur', rfl, hb', _⟩
    · exact Or.inl rfl
    · exact Or.inr ⟨g', rfl, hb'⟩
  · by_cases hroom : n + m ≤ cap
    · have hcell : ∀ j, j < cap * size → w.cell? ⟨g, j, none⟩ = cur[j]? := fun j _ => by simp [World.cell?, hh]
      subst hsize
      have hr2 := run_append_room_cells (P := Try.prog) w t ty e i ht hi g 0 n cap a m c news hl hnews h1 hroom (fun j hj => by
        rw [hl] at hj
        have hlt : n * i.size + j < cap * i.size := by
          have : (n + m) * i.size ≤ cap * i.size := Nat.mul_le_mul_right _ hroom
          rw [Nat.add_mul] at this; omega
        rw [show 0 + n * i.size + j = n * i.size + j by omega, hcell _ hlt]
        simp [hcs, hlt]) (fun j _ => by simp [World.frozen?, hh])
      rw [hr] at hr2
      cases hr2
      exact Or.inl rfl
    · have holds : ∀ j u, xs[j]? = some u → w.cell? ((⟨g, 0, none⟩ : Addr).add j) = some u := by
        intro j u hj
        have e2 : (⟨g, 0, none⟩ : Addr).add j = ⟨g, j, none⟩ := by unfold Addr.add; split <;> simp_all
        rw [e2]
        rw [← htk] at hj
        have hjl : j < n * size := by
          rcases Nat.lt_or_ge j (n * size) with h | h
          · exact h
          · rw [List.getElem?_eq_none (by simp; omega)] at hj; cases hj
        rw [List.getElem?_take_of_lt hjl] at hj
        simp [World.cell?, hh]
        simpa using hj
      obtain ⟨v2, w2, hr2, ho2, _⟩ := run_append_arg_grows (P := Try.prog) w t ty e i z size bytes ht hi hz hsize hby hzs hsz ⟨g, 0, none⟩ n cap xs hxl holds a m c news hl hnews (by omega) h63 hbytes
      rw [hr] at hr2
      cases hr2
      rcases ho2.2 with ⟨rfl, hz0⟩ | ⟨g', cap', cur', rfl, hb', _⟩
      · exfalso; omega
      · exact Or.inr ⟨g', rfl, hb'⟩

theorem wpList_append_apart (w : World) {ops : Array Oper} {rest : List Oper} {o : Oper} {a : Act} {Q : Exit → Act → World → Prop} (hgd : o.guard = none) (s x : Operand) (t : TypeId)
    (ho : o.op = .call { callee := .builtin .append, args := #[s, x], argTypes := #[t, t] })
    (base : Nat) (e : TypeId) (i : TypeInfo) (z : Value) (size bytes : Nat) (ht : Try.prog.underlying t = some (.slice e)) (hi : Try.prog.info? e = some i) (hz : i.zero = some z)
    (hsize : i.size = size) (hby : i.bytes = bytes) (hzs : z.cells.size = size) (hsz : 0 < size)
    (v : Value) (n : Nat) (xs : List Value) (hs : a.eval s = v) (hown : w.ownsRow base e size v n xs)
    (ad : Addr) (m c : Nat) (news : List Value) (hx : a.eval x = .slice (some ad) m c) (hl : news.length = m * size) (hnews : ∀ j u, news[j]? = some u → w.cell? (ad.add j) = some u) (h1 : ∀ u ∈ news, u.oneCell' = true)
    (h63 : n + m ≤ maxLen) (hbytes : (n + m) * bytes ≤ 140737488355328) (hbase : base ≤ w.heap.size)
    (h : ∀ v' w', w'.ownsRow base e size v' (n + m) (xs ++ news) → w.grownBy w' v.ownBlock → (v'.ownBlock = v.ownBlock ∨ ∃ g, v'.ownBlock = some g ∧ w.heap.size ≤ g) → wpList Try.prog ops Q rest (a.put o.dst v') w') : wpList Try.prog ops Q (o :: rest) a w := by
  refine wpList_plain hgd fun K hK' => ?_
  obtain ⟨v', w', hrun, r1, r2, r3⟩ := run_append_apart w base t o.type e i z size bytes ht hi hz hsize hby hzs hsz v n xs hown ad m c news hl hnews h1 h63 hbytes hbase
  unfold Oper.wp
  simp [execOp, ho, resolve, invoke, builtin, hs, hx, hrun, Result.andThen]
  exact hK' _ _ (h v' w' r1 r2 r3)

theorem step_append_apart {ops : Array Oper} {o : Oper} {a : Act} {w : World} {K : Act → World → Prop} {Q : Exit → Act → World → Prop} {E : Prop}
    (hg : o.guard = none) (s x : Operand) (t : TypeId) (hop : o.op = Op.call { callee := Callee.builtin Builtin.append, args := #[s, x], argTypes := #[t, t] })
    (base : Nat) (e : TypeId) (i : TypeInfo) (z : Value) (size bytes : Nat) (ht : Try.prog.underlying t = some (.slice e)) (hi : Try.prog.info? e = some i) (hz : i.zero = some z)
    (hsize : i.size = size) (hby : i.bytes = bytes) (hzs : z.cells.size = size) (hsz : 0 < size)
    (v : Value) (n : Nat) (xs : List Value) (hs : a.eval s = v) (hown : w.ownsRow base e size v n xs)
    (ad : Addr) (m c : Nat) (news : List Value) (hx : a.eval x = .slice (some ad) m c) (hl : news.length = m * size) (hnews : ∀ j u, news[j]? = some u → w.cell? (ad.add j) = some u) (h1 : ∀ u ∈ news, u.oneCell' = true)
    (h63 : n + m ≤ maxLen) (hbytes : (n + m) * bytes ≤ 140737488355328) (hbase : base ≤ w.heap.size)
    (hK : ∀ v' w', w'.ownsRow base e size v' (n + m) (xs ++ news) → w.grownBy w' v.ownBlock → (v'.ownBlock = v.ownBlock ∨ ∃ g, v'.ownBlock = some g ∧ w.heap.size ≤ g) → K (a.put o.dst v') w') :
    if Region.wanted o (yielded ops a.tmps) = true then Oper.wp Try.prog o a w K Q else E := by
  have hw : Region.wanted o (yielded ops a.tmps) = true := by simp [Region.wanted, hg]
  rw [if_pos hw]
  obtain ⟨v', w', hrun, r1, r2, r3⟩ := run_append_apart w base t o.type e i z size bytes ht hi hz hsize hby hzs hsz v n xs hown ad m c news hl hnews h1 h63 hbytes hbase
  unfold Oper.wp
  simp [execOp, hop, resolve, invoke, builtin, hs, hx, hrun, Result.andThen]
  exact hK v' w' r1 r2 r3

/-- The form of a slice that owns. -/
theorem owns_form {w : World} {base e size n : Nat} {v : Value} {xs : List Value} (h : w.ownsRow base e size v n xs) : ∃ (a : Option Addr) (l c : Nat), v = .slice a l c ∧ l = n := by
  rcases h.2 with ⟨rfl, rfl⟩ | ⟨g, cap, cur, rfl, _⟩
  · exact ⟨_, _, _, rfl, rfl⟩
  · exact ⟨_, _, _, rfl, rfl⟩
/-- Its cells. -/
theorem owns_cells {w : World} {base e size n : Nat} {a : Option Addr} {l c : Nat} {xs : List Value} (h : w.ownsRow base e size (.slice a l c) n xs) : ∃ g : Nat, ∀ j u, xs[j]? = some u → a = some ⟨g, 0, none⟩ ∧ base ≤ g ∧ g < w.heap.size ∧ w.cell? ⟨g, j, none⟩ = some u := by
  rcases h with ⟨hxl, ⟨hv, rfl⟩ | ⟨g, cap, cur, hv, hbg, hh, hnc, hcm, hcs, htk⟩⟩
  · have hxs : xs = [] := List.eq_nil_of_length_eq_zero (by simpa using hxl)
    subst hxs
    exact ⟨0, fun j u hj => by simp at hj⟩
  · cases hv
    refine ⟨g, fun j u hj => ⟨rfl, hbg, ?_, ?_⟩⟩
    · obtain ⟨hlt, _⟩ := Array.getElem?_eq_some_iff.1 hh
      exact hlt
    · rw [← htk] at hj
      have hjl : j < n * size := by
        rcases Nat.lt_or_ge j (n * size) with h | h
        · exact h
        · rw [List.getElem?_eq_none (by simp; omega)] at hj; cases hj
      rw [List.getElem?_take_of_lt hjl] at hj
      simp [World.cell?, hh]
      simpa using hj
theorem owns_cap {w : World} {base e size n : Nat} {a : Option Addr} {l c : Nat} {xs : List Value} (h : w.ownsRow base e size (.slice a l c) n xs) : n ≤ c ∧ (a = none → n = 0) := by
  rcases h.2 with ⟨hv, rfl⟩ | ⟨g, cap, cur, hv, hbg, hh, hnc, hcm, hcs, htk⟩
  · exact ⟨Nat.zero_le _, fun _ => rfl⟩
  · cases hv; exact ⟨hnc, fun e => by cases e⟩
/-- It stays owned where its block is left alone. -/
theorem owns_kept {w w' : World} {base e size n : Nat} {v : Value} {xs : List Value} (h : w.ownsRow base e size v n xs) (hb : ∀ g, v.ownBlock = some g → w'.heap[g]? = w.heap[g]?) : w'.ownsRow base e size v n xs := by
  rcases h with ⟨hxl, ⟨hv, rfl⟩ | ⟨g, cap, cur, rfl, hbg, hh, hr⟩⟩
  · exact ⟨hxl, Or.inl ⟨hv, rfl⟩⟩
  · exact ⟨hxl, Or.inr ⟨g, cap, cur, rfl, hbg, by rw [hb g rfl]; exact hh, hr⟩⟩
theorem owns_block {w : World} {base e size n : Nat} {v : Value} {xs : List Value} (h : w.ownsRow base e size v n xs) {g : Nat} (hg : v.ownBlock = some g) : base ≤ g ∧ g < w.heap.size ∧ ∃ cur, w.heap[g]? = some (.cells cur e (0, 0)) := by
  rcases h.2 with ⟨rfl, rfl⟩ | ⟨g', cap, cur, rfl, hbg, hh, hr⟩
  · cases hg
  · cases hg
    obtain ⟨hlt, _⟩ := Array.getElem?_eq_some_iff.1 hh
    exact ⟨hbg, hlt, cur, hh⟩
end Go.Proofs.Qxb6627355a
