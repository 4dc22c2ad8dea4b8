import Derived.Test.Qxb6627355aNext
namespace Go.Proofs.Qxb6627355a
open Go.RowKit

/-! ### The sizes in use -/
def kk (L : Nat → Nat) : Nat → Nat
  | 0 => 0
  | i + 1 => kk L i + (if 0 < L i then 1 else 0)
def nth (L : Nat → Nat) (k : Nat) : Nat := ((List.range 33).filter fun i => decide (0 < L i))[k]?.getD 0
theorem kk_length (L : Nat → Nat) (i : Nat) : ((List.range i).filter fun i => decide (0 < L i)).length = kk L i := by
  induction i with
  | zero => rfl
  | succ i ih =>
    rw [List.range_succ, List.filter_append, List.length_append, ih]
    simp only [kk]
    by_cases h : 0 < L i
    · simp [h]
    · simp [h]
theorem nth_kk {L : Nat → Nat} {i : Nat} (hi : i < 33) (hL : 0 < L i) : nth L (kk L i) = i := by
  unfold nth
  rw [← kk_length L i]
  have e : List.range 33 = List.range i ++ (i :: (List.range (32 - i)).map (i + 1 + ·)) := by
    rw [show (33 : Nat) = (i + 1) + (32 - i) by omega, List.range_add, List.range_succ, List.append_assoc, List.singleton_append]
  rw [e, List.filter_append, List.getElem?_append_right (Nat.le_refl _), Nat.sub_self, List.filter_cons]
  simp [hL]
theorem kk_le (L : Nat → Nat) (i : Nat) : kk L i ≤ i := by
  induction i with
  | zero => exact Nat.le_refl _
  | succ i ih => simp only [kk]; split <;> omega
theorem kk_mono (L : Nat → Nat) {i j : Nat} (h : i ≤ j) : kk L i ≤ kk L j := by
  induction j with
  | zero => have : i = 0 := by omega
            subst this; exact Nat.le_refl _
  | succ j ih =>
    rcases Nat.lt_or_ge i (j + 1) with hl | hl
    · have := ih (by omega); simp only [kk]; omega
    · have : i = j + 1 := by omega
      subst this; exact Nat.le_refl _
theorem kk_same {L : Nat → Nat} {i j : Nat} (h : i ≤ j) (h0 : ∀ x, i ≤ x → x < j → L x = 0) : kk L j = kk L i := by
  induction j with
  | zero => have : i = 0 := by omega
            subst this; rfl
  | succ j ih =>
    rcases Nat.lt_or_ge i (j + 1) with hl | hl
    · have h1 := ih (by omega) (fun x h1 h2 => h0 x h1 (by omega))
      have h2 := h0 j (by omega) (by omega)
      simp only [kk, h2]
      simpa using h1
    · have : i = j + 1 := by omega
      subst this; rfl
/-- Each place below kk is some size's. -/
theorem nth_spec {L : Nat → Nat} {i k : Nat} (hi : i ≤ 33) (hk : k < kk L i) : nth L k < i ∧ 0 < L (nth L k) ∧ kk L (nth L k) = k := by
  induction i with
  | zero => simp [kk] at hk
  | succ i ih =>
    rcases Nat.lt_or_ge k (kk L i) with hl | hl
    · obtain ⟨h1, h2⟩ := ih (by omega) hl
      exact ⟨by omega, h2⟩
    · simp only [kk] at hk
      by_cases hL : 0 < L i
      · rw [if_pos hL] at hk
        have e : k = kk L i := by omega
        rw [e, nth_kk (by omega) hL]
        exact ⟨by omega, hL, rfl⟩
      · rw [if_neg hL] at hk; omega

theorem cell_two_new (w : World) (x y : Value) (t : TypeId) : ∀ j u, [x, y][j]? = some u → (w.alloc (.cells #[x, y] t)).cell? ((⟨w.heap.size, 0, none⟩ : Addr).add j) = some u := by
  intro j u hj
  match j, hj with
  | 0, hj => simp at hj; subst hj; simp [Addr.add]
  | 1, hj => simp at hj; subst hj; simp [Addr.add]

structure SetTo (w wr : World) (Z : Nat → Int) (V : Nat → Value) (k : Nat) (v : Value) (n : Nat) : Prop where
  below : Below w.heap.size w wr
  res : ∃ f, wr.rowIs w.heap.size 32 2 f
  s : wr.rowIs (w.heap.size + 1) 32 2 (two v (.int .i64 (n : Int)))
  own : wr.ownsRow (w.heap.size + 2) 48 2 v k (gcells Z V k)

theorem SetTo.step {w wr w1 w2 : World} {Z : Nat → Int} {V : Nat → Value} {k n : Nat} {v v' : Value} (h : SetTo w wr Z V k v n) (h1 : Below wr.heap.size wr w1) (hg : w1.grownBy w2 v.ownBlock) (ho : w2.ownsRow (w.heap.size + 2) 48 2 v' (k + 1) (gcells Z V k ++ [.int .i64 (Z k), V k])) :
    SetTo w (w2.setCell ⟨w.heap.size + 1, 0, none⟩ v') Z V (k + 1) v' n := by
  obtain ⟨f, hf⟩ := h.res
  have hsz := h.s.lt
  have hne : ∀ b, b < w.heap.size + 2 → some b ≠ v.ownBlock := by
    intro b hb e
    have := (owns_block h.own e.symm).1
    omega
  have hblk : ∀ b, b < w.heap.size + 2 → w2.heap[b]? = wr.heap[b]? := fun b hb => by
    rw [hg.block b (by have := h1.size; omega) (hne b hb), h1.block b (by omega)]
  refine ⟨?_, ⟨f, (hf.of_block (hblk _ (by omega))).setOther (by show w.heap.size ≠ w.heap.size + 1; omega) _⟩, ?_, ?_⟩
  · refine ((h.below.trans (h1.mono h.below.size)).grown hg (by have := h.below.size; have := h1.size; omega) (fun b hb => ?_)).setCell (by show w.heap.size ≤ w.heap.size + 1; omega) _
    have := (owns_block h.own hb).1
    omega
  · refine ((h.s.of_block (hblk _ (by omega))).set 0 v').congr (fun j _ => ?_)
    by_cases e : j = 0
    · simp [e, two]
    · simp [e, two]
  · refine owns_kept ho (fun g hg' => ?_)
    have := (owns_block ho hg').1
    exact Below.heap_setCell _ _ _ _ (by show g ≠ w.heap.size + 1; omega)

theorem SetTo.field {w wr w1 w2 : World} {Z : Nat → Int} {V : Nat → Value} {k n : Nat} {v : Value} (h : SetTo w wr Z V k v n) (h1 : Below wr.heap.size wr w1) (hg : w1.grownBy w2 v.ownBlock) :
    w2.cell? ⟨w.heap.size + 1, 0, none⟩ = some v ∧ w2.frozen? ⟨w.heap.size + 1, 0, none⟩ = false ∧ w2.cell? ⟨w.heap.size + 1, 1, none⟩ = some (.int .i64 (n : Int)) ∧ w2.frozen? ⟨w.heap.size + 1, 1, none⟩ = false := by
  have hsz := h.s.lt
  have hne : some (w.heap.size + 1) ≠ v.ownBlock := by
    intro e
    have := (owns_block h.own e.symm).1
    omega
  have hr := h.s.of_block (w' := w2) (by rw [hg.block _ (by have := h1.size; omega) hne, h1.block _ hsz])
  exact ⟨hr.cell (i := 0) (by omega), hr.frozen 0, hr.cell (i := 1) (by omega), hr.frozen 1⟩

theorem SetTo.len {w wr : World} {Z : Nat → Int} {V : Nat → Value} {k n : Nat} {v : Value} (h : SetTo w wr Z V k v n) (m : Nat) : SetTo w (wr.setCell ⟨w.heap.size + 1, 1, none⟩ (.int .i64 (m : Int))) Z V k v m := by
  obtain ⟨f, hf⟩ := h.res
  refine ⟨h.below.setCell (by show w.heap.size ≤ w.heap.size + 1; omega) _, ⟨f, hf.setOther (by show w.heap.size ≠ w.heap.size + 1; omega) _⟩, ?_, ?_⟩
  · refine (h.s.set 1 _).congr (fun j _ => ?_)
    by_cases e : j = 1
    · subst e; simp [two]
    · have e0 : j = 0 := by omega
      subst e0; simp [two]
  · refine owns_kept h.own (fun g hg' => ?_)
    have := (owns_block h.own hg').1
    exact Below.heap_setCell _ _ _ _ (by show g ≠ w.heap.size + 1; omega)
theorem SetTo.drewN {w wr : World} {Z : Nat → Int} {V : Nat → Value} {k n : Nat} {v : Value} (h : SetTo w wr Z V k v n) (d : Nat) : SetTo w (wr.drewN d) Z V k v n := ⟨below_drewN h.below d, h.res, h.s, owns_kept h.own (fun _ _ => rfl)⟩

/-- What set leaves: the groups, in every world that has the new blocks and the rows. -/
def SetP (A : Nat → Option Addr) (L : Nat → Nat) (X : Nat → Nat → Int) (w : World) (e : Ending) (w' : World) : Prop :=
  ∃ a c, e = .returned (.agg #[.slice a (kk L 33) c, .int .i64 (sumTo (fun i => L i / i) 33 : Int)]) ∧ (∀ wz : World, (∀ b, w.heap.size ≤ b → wz.heap[b]? = w'.heap[b]?) → (∀ i, i < 33 → Bts wz (A i) (L i) (X i)) → Grs wz a (kk L 33) (fun k => (nth L k : Int)) (fun k => L (nth L k)) (fun k => X (nth L k))) ∧ Below w.heap.size w w'

set_option maxHeartbeats 4000000 in
theorem set_calls {w : World} {bz : Nat} {A : Nat → Option Addr} {L C : Nat → Nat} {X : Nat → Nat → Int} (hc : ∀ i, i < 33 → w.cell? ⟨bz, i, none⟩ = some (.slice (A i) (L i) (C i))) (hb : ∀ i, i < 33 → L i ≤ C i ∧ (A i = none → L i = 0))
    (h0 : L 0 = 0) (hL : ∀ i, i < 33 → L i ≤ 1048576) :
    Calls Try.prog 25 #[.pointer (some ⟨bz, 0, none⟩)] w (SetP A L X w) := by
  have HC : Hid (∀ i, i < 33 → w.cell? ⟨bz, i, none⟩ = some (.slice (A i) (L i) (C i))) := hc
  have HB : Hid (∀ i, i < 33 → L i ≤ C i ∧ (A i = none → L i = 0)) := hb
  have HL : Hid (∀ i, i < 33 → L i ≤ 1048576) := hL
  have HNN : Hid (∀ i, i ≤ 33 → sumTo (fun i => L i / i) i ≤ 34603008) := fun i hi => by
    have : ∀ i, i ≤ 33 → sumTo (fun i => L i / i) i ≤ i * 1048576 := by
      intro i
      induction i with
      | zero => intro _; exact Nat.le_refl _
      | succ i ih =>
        intro h
        have h1 := ih (by omega)
        have h2 : L i / i ≤ L i := Nat.div_le_self _ _
        have h3 := hL i (by omega)
        simp only [sumTo]; omega
    have := this i hi; omega
  clear hc hb hL
  obtain ⟨i0, hi, hz0, hz1, hz2⟩ := info_parts Try.info48
  go_enter Try.func25, Try.ntmps25
  go_wp2
  go_loopw [8] (fun x wr => ∃ i : Nat, i ≤ 33 ∧ x = .int .i64 i ∧ ∃ v, SetTo w wr (fun k => (nth L k : Int)) (fun k => .slice (A (nth L k)) (L (nth L k)) (C (nth L k))) (kk L i) v (sumTo (fun i => L i / i) i)) (fun x _ => 33 - (intOf x).toNat)
  case atStart =>
    refine ⟨0, Nat.zero_le _, rfl, .slice none 0 0, ((Below.refl _ _).alloc (Nat.le_refl _) _).alloc (by simp) _, ⟨_, (World.rowIs_alloc w _ 32 (two (.slice none 0 0) (.int .i64 0)) ?_).alloc _⟩, ?_, World.ownsRow_nil _ _ _ _⟩
    · intro i hi; match i, hi with
      | 0, _ => rfl
      | 1, _ => rfl
    · have h := World.rowIs_alloc (w.alloc (.cells #[.slice none 0 0, .int .i64 0] 32)) #[.slice none 0 0, .int .i64 0] 32 (two (.slice none 0 0) (.int .i64 0)) (by
        intro i hi; match i, hi with
        | 0, _ => rfl
        | 1, _ => rfl)
      simp only [World.size_alloc] at h
      exact h
  case round =>
    obtain ⟨i, hi33, rfl, v, hto⟩ := hrel
    by_cases hlt : i < 33
    · have k1 := HC.out i hlt
      replace k1 := cell_keep' k1 hto.below
      have hLi := HL.out i hlt
      have hgi : (i : Int) < 33 := by omega
      by_cases hpos : 0 < L i
      · have hnk := nth_kk hlt hpos
        have hkk : kk L (i + 1) = kk L i + 1 := by simp [kk, hpos]
        have hsum : sumTo (fun i => L i / i) (i + 1) = sumTo (fun i => L i / i) i + L i / i := rfl
        have hs1 := HNN.out (i + 1) hlt
        have hkl := kk_le L i
        rw [hsum] at hs1
        have HK : Hid (kk L (i + 1) = kk L i + 1) := hkk
        have HS : Hid (sumTo (fun i => L i / i) (i + 1) = sumTo (fun i => L i / i) i + L i / i) := hsum
        have HNK : Hid (nth L (kk L i) = i) := hnk
        have hi0 : 0 < i := by
          rcases Nat.eq_zero_or_pos i with rfl | h
          · omega
          · exact h
        clear hkk hsum hnk
        have s0 := hto.s.cell (i := 0) (by omega)
        have s1 := hto.s.frozen 0
        have hsz := hto.s.lt
        simp only [two, if_true] at s0
        have hdiv : (L i : Int) / (i : Int) = ((L i / i : Nat) : Int) := (Int.natCast_ediv _ _).symm
        obtain ⟨T, hT⟩ : ∃ T, T = sumTo (fun i => L i / i) i := ⟨_, rfl⟩
        obtain ⟨K, hK⟩ : ∃ K, K = kk L i := ⟨_, rfl⟩
        rw [← hT] at HS hs1 hto
        rw [← hK] at HK HNK hto hkl
        clear hT hK
        generalize L i / i = Q at *
        obtain ⟨va, vl, vc, rfl, hvl⟩ := owns_form hto.own
        subst hvl
        have hip : (0 : Int) < (i : Int) := by omega
        have hpos' : (0 : Int) < (L i : Int) := by omega
        go_wp2
        go_quiet (fail)
        go_wp2_with (first
          | (at_builtin; refine wpList_append_apart _ rfl _ _ 30 rfl (w.heap.size + 2) 48 i0 (.agg #[.int .i64 0, .slice none 0 0]) 2 32 Try.underlying30 hi hz0 hz1 hz2 rfl (by decide) (.slice va vl vc) vl (gcells (fun k => (nth L k : Int)) (fun k => .slice (A (nth L k)) (L (nth L k)) (C (nth L k))) vl) rfl ?c0 ⟨wr.heap.size, 0, none⟩ 1 1 [.int .i64 (i : Int), .slice (A i) (L i) (C i)] rfl rfl ?c1 ?c2 ?c3 ?c4 ?c5 ?_)
          | go_in)
        case c0 => exact (hto.drewN _).own.alloc _
        case c1 => exact cell_two_new (wr.drewN nq) _ _ 48
        case c2 => intro u hu; simp at hu; rcases hu with rfl | rfl <;> rfl
        case c3 => unfold maxLen; omega
        case c4 => omega
        case c5 =>
          have : (wr.drewN nq).heap.size = wr.heap.size := rfl
          simp only [World.size_alloc]
          omega
        intro v' w2 hown' hgrow' _
        have hbel : Below wr.heap.size wr ((wr.drewN nq).alloc (Obj.cells #[Value.int IntKind.i64 ↑i, Value.slice (A i) (L i) (C i)] 48)) := (below_drewN (Below.refl _ _) nq).alloc (Nat.le_refl _) _
        have hst := hto.step hbel hgrow' (by simp only [HNK.out]; exact hown')
        obtain ⟨f1, f2, _, _⟩ := hto.field hbel hgrow'
        obtain ⟨va', vl', vc', rfl, hvl'⟩ := owns_form hown'
        subst hvl'
        have r1 : (w2.setCell ⟨w.heap.size + 1, 0, none⟩ (.slice va' (vl + 1) vc')).cell? ⟨w.heap.size + 1, 1, none⟩ = some (.int .i64 (T : Int)) := hst.s.cell (i := 1) (by omega)
        have r2 := hst.s.frozen 1
        have HL2 : Hid (SetTo w ((w2.setCell ⟨w.heap.size + 1, 0, none⟩ (.slice va' (vl + 1) vc')).setCell ⟨w.heap.size + 1, 1, none⟩ (.int .i64 ((T + Q : Nat) : Int))) (fun k => (nth L k : Int)) (fun k => .slice (A (nth L k)) (L (nth L k)) (C (nth L k))) (vl + 1) (.slice va' (vl + 1) vc') (T + Q)) := hst.len (T + Q)
        clear hown' hgrow' hto hst hbel s0 s1
        rw [Int.natCast_add] at HL2
        go_wp2
        go_region
        all_goals
          go_wp2
          go_roundw
          case rel => exact ⟨i + 1, by omega, by go_num, _, by rw [HK.out, HS.out]; first | exact HL2.out | exact HL2.out.drewN 1⟩
          case measure => simp [intOf]; omega
      · have hkk : kk L (i + 1) = kk L i := by simp [kk, hpos]
        have hl0 : L i = 0 := by omega
        have hsum : sumTo (fun i => L i / i) (i + 1) = sumTo (fun i => L i / i) i := by simp [sumTo, hl0]
        rw [← hkk, ← hsum] at hto
        rw [hl0] at k1
        clear hkk hsum hpos
        go_wp2
        go_quiet (fail)
        go_wp2
        go_roundw
        case rel => exact ⟨i + 1, by omega, by go_num, v, hto.drewN _⟩
        case measure => simp [intOf]; omega
    · obtain rfl : i = 33 := by omega
      obtain ⟨va, vl, vc, rfl, hvl⟩ := owns_form hto.own
      obtain ⟨n, hn⟩ : ∃ n, n = sumTo (fun i => L i / i) 33 := ⟨_, rfl⟩
      rw [← hn] at hto
      have HNS : Hid (n = sumTo (fun i => L i / i) 33) := hn
      have s0 : wr.cell? ⟨w.heap.size + 1, 0, none⟩ = some (.slice va vl vc) := hto.s.cell (i := 0) (by omega)
      have s1 : wr.cell? ⟨w.heap.size + 1, 1, none⟩ = some (.int .i64 (n : Int)) := hto.s.cell (i := 1) (by omega)
      obtain ⟨f, hf⟩ := hto.res
      have r0 := hf.cell (i := 0) (by omega)
      have r1 := hf.cell (i := 1) (by omega)
      have r2 := hf.frozen 0
      have r3 := hf.frozen 1
      have hne : ∀ g, (Value.slice va vl vc).ownBlock = some g → w.heap.size + 2 ≤ g := fun g hg => (owns_block hto.own hg).1
      have hbel : Hid (Below w.heap.size w ((wr.setCell ⟨w.heap.size, 0, none⟩ (.slice va vl vc)).setCell ⟨w.heap.size, 1, none⟩ (.int .i64 (n : Int)))) :=
        (hto.below.setCell (Nat.le_refl _) _).setCell (Nat.le_refl _) _
      have hgr : Hid (∀ wz : World, (∀ b, w.heap.size ≤ b → wz.heap[b]? = ((wr.setCell ⟨w.heap.size, 0, none⟩ (.slice va vl vc)).setCell ⟨w.heap.size, 1, none⟩ (.int .i64 (n : Int))).heap[b]?) → (∀ i, i < 33 → Bts wz (A i) (L i) (X i)) → Grs wz va (kk L 33) (fun k => (nth L k : Int)) (fun k => L (nth L k)) (fun k => X (nth L k))) := by
        subst hvl
        intro wz hz hbz
        refine grs_of (w0 := wz) (A := fun k => A (nth L k)) (C := fun k => C (nth L k)) (c := vc) (owns_kept hto.own (fun g hg => ?_)) (Below.refl _ _) (fun g hg => ?_)
        · have := hne g hg
          rw [hz g (by omega), Below.heap_setCell _ _ _ _ (by show g ≠ w.heap.size; omega), Below.heap_setCell _ _ _ _ (by show g ≠ w.heap.size; omega)]
        · have hl := (nth_spec (Nat.le_refl _) hg).1
          exact ⟨(HB.out _ hl).1, (HB.out _ hl).2, hbz _ hl⟩
      have hback := (hf.set 0 (.slice va vl vc)).set 1 (.int .i64 (n : Int))
      have HB0 : Hid (World.cell? ((wr.setCell ⟨w.heap.size, 0, none⟩ (.slice va vl vc)).setCell ⟨w.heap.size, 1, none⟩ (.int .i64 (n : Int))) ⟨w.heap.size, 0, none⟩ = some (.slice va vl vc)) := hback.cell (i := 0) (by omega)
      have HB1 : Hid (World.cell? ((wr.setCell ⟨w.heap.size, 0, none⟩ (.slice va vl vc)).setCell ⟨w.heap.size, 1, none⟩ (.int .i64 (n : Int))) ⟨w.heap.size, 1, none⟩ = some (.int .i64 (n : Int))) := hback.cell (i := 1) (by omega)
      have HV : Hid (vl = kk L 33) := hvl
      clear hback hne hf hto hvl hn
      go_wp2
      exact bodyPost_ret (v := .agg #[.slice va vl vc, .int .i64 (n : Int)]) (by simp [results, Try.results25, go_sem, HB0.out, HB1.out]) rfl ⟨va, vc, by rw [HV.out, HNS.out], hgr.out, hbel.out⟩
end Go.Proofs.Qxb6627355a
