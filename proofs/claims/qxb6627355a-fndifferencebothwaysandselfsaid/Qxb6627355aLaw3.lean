import Derived.Test.Qxb6627355aLawMath
namespace Go.Proofs.Qxb6627355a
open Go.RowKit

theorem Try.info4 : (Try.prog.info? 4).map (fun i => (i.zero, i.size, i.bytes)) = some (some (.bool false), 1, 1) := by kernel_rfl

def LawPost (w : World) (e : Ending) (w' : World) : Prop := e = .returned (.bool true) ∧ Below w.heap.size w w'

/-- Behind the sizes' checks: two valid sets. -/
structure In2 (w : World) (a1 a2 a3 a4 : Option Addr) (F T : St) : Prop where
  iF : SetIn w a1 a2 F
  iT : SetIn w a3 a4 T
  vF : Valid F
  vT : Valid T
  sF : Small F
  sT : Small T
  tF : ∀ g, g ≤ F.G → sumTo F.m g ≤ 1048576
  tT : ∀ g, g ≤ T.G → sumTo T.m g ≤ 1048576

theorem In2.below {w w' : World} {a1 a2 a3 a4 : Option Addr} {F T : St} (h : In2 w a1 a2 a3 a4 F T) (hb : Below w.heap.size w w') : In2 w' a1 a2 a3 a4 F T := ⟨h.iF.below hb, h.iT.below hb, h.vF, h.vT, h.sF, h.sT, h.tF, h.tT⟩
theorem Mk.below {w0 wr : World} {mb n : Nat} {F T : St} {i j : Nat} (h : Mk w0 wr mb n F T i j) : Below w0.heap.size w0 wr := h.choose_spec.2.2
theorem Mk.start (w : World) (n : Nat) (F T : St) : Mk w (w.alloc (.cells (madeCells #[.bool false] n) 4)) w.heap.size n F T 0 0 :=
  ⟨fun _ => false, World.rowIs_made w _ _ _, fun r => ⟨fun h => (by cases h), fun ⟨g, x, h, _⟩ => by omega⟩, (Below.refl _ _).alloc (Nat.le_refl _) _⟩
/-- The groups that are added, in memory. -/
def AddG (LS : Nat → List Int) (w : World) (za : Option Addr) (KK : Nat) : Prop := Grs w za KK (fun k => (nth (fun s => (LS s).length) k : Int)) (fun k => (LS (nth (fun s => (LS s).length) k)).length) (fun k j => (LS (nth (fun s => (LS s).length) k))[j]?.getD 0)
theorem AddG.below {LS : Nat → List Int} {w w' : World} {za : Option Addr} {KK : Nat} (h : AddG LS w za KK) (hb : Below w.heap.size w w') : AddG LS w' za KK := Grs.below h hb
theorem mul_next {j m s : Nat} (h : j < m) : j * s + s ≤ m * s := by
  have := Nat.mul_le_mul_right s (show j + 1 ≤ m from h)
  rw [Nat.succ_mul] at this; exact this

theorem mark_row {w0 wr : World} {mb n : Nat} {F T : St} (h : Mk w0 wr mb n F T F.G 0) : wr.rowIs mb 4 n (fun r => .bool (remB F T r)) := by
  obtain ⟨M, h1, h2, _⟩ := h
  refine h1.congr (fun r _ => ?_)
  have : M r = remB F T r := by rw [Bool.eq_iff_iff, h2 r, done_end]
  rw [this]
theorem addL_small {T F : St} {i M : Nat} (h : T.m i * T.s i ≤ M) {j : Nat} (hj : j ≤ T.m i) : (addL T F i j).length ≤ M := by
  have h1 := addL_length T F i j
  have h2 := Nat.mul_le_mul_right (T.s i) hj
  omega
theorem lists_cmp (l : List Int) : cmp (ls l.length (fun j => l[j]?.getD 0)) (ls l.length (fun j => l[j]?.getD 0)) = 0 := cmp_self _
theorem addL_byt {w : World} {a : Option Addr} {T F : St} {i : Nat} (h : Bts w a (T.m i * T.s i) (T.X i)) {j : Nat} (hj : j ≤ T.m i) : ∀ z, z ∈ addL T F i j → 0 ≤ z ∧ z ≤ 255 := by
  induction j with
  | zero => intro z hz; cases hz
  | succ j ih =>
    intro z hz
    simp only [addL, List.mem_append] at hz
    rcases hz with hz | hz
    · exact ih (by omega) z hz
    · split at hz
      · cases hz
      · simp only [el, ls, List.mem_map, List.mem_range] at hz
        obtain ⟨t, ht, rfl⟩ := hz
        have := mul_next (s := T.s i) hj
        exact h.bounds _ (by omega)

/-- The bytes wanted so far, in memory. -/
def Want (w0 wi : World) (v : Value) (l : List Int) : Prop := wi.ownsRow w0.heap.size 5 1 v l.length (l.map (.int .u8)) ∧ Below w0.heap.size w0 wi
theorem Want.start (w : World) : Want w w (.slice none 0 0) [] := ⟨World.ownsRow_nil _ _ _ _, Below.refl _ _⟩
theorem Want.drawn {w0 wi w1 : World} {v : Value} {l : List Int} (h : Want w0 wi v l) (hd : Drawn wi w1) : Want w0 w1 v l := by
  obtain ⟨d, rfl⟩ := hd
  exact ⟨owns_kept h.1 (fun _ _ => rfl), below_drewN h.2 d⟩
theorem Want.app {w0 wi w1 : World} {v v' : Value} {l x : List Int} {n : Nat} (h : Want w0 wi v l) (hx : x.length = n) (ho : w1.ownsRow w0.heap.size 5 1 v' (l.length + n) (l.map (Value.int .u8) ++ x.map (Value.int .u8))) (hg : wi.grownBy w1 v.ownBlock) : Want w0 w1 v' (l ++ x) := by
  subst hx
  refine ⟨by rw [List.length_append, List.map_append]; exact ho, h.2.grown hg h.2.size (fun k hk => (owns_block h.1 hk).1)⟩
theorem ls_small {T F : St} {LS : Nat → List Int} (hs : Small T) (h : (∀ h, h < T.G → LS (T.s h) = addL T F h (T.m h)) ∧ (∀ s, (∀ h, h < T.G → T.s h ≠ s) → LS s = [])) (s : Nat) : (LS s).length ≤ 1048576 := by
  by_cases hs' : ∃ g, g < T.G ∧ T.s g = s
  · obtain ⟨g, hg, rfl⟩ := hs'
    rw [h.1 g hg]
    exact addL_small (hs.2 g hg) (Nat.le_refl _)
  · rw [h.2 s (fun g hg e => hs' ⟨g, hg, e⟩)]
    exact Nat.zero_le _
theorem sum_small {LS : Nat → List Int} (h : ∀ s, (LS s).length ≤ 1048576) : ∀ i, sumTo (fun i => (LS i).length / i) i ≤ i * 1048576 := by
  intro i
  induction i with
  | zero => exact Nat.le_refl _
  | succ i ih =>
    have h2 : (LS i).length / i ≤ (LS i).length := Nat.div_le_self _ _
    have h3 := h i
    simp only [sumTo]; omega

theorem ints_none {w : World} {a : Option Addr} {n : Nat} {Z : Nat → Int} (h : Ints w a n Z) (e : a = none) : n = 0 := by
  obtain ⟨b, o, h⟩ := h
  rcases Nat.eq_zero_or_pos n with h0 | h0
  · exact h0
  · have := (h 0 h0).1; rw [e] at this; cases this
theorem rws_none {w : World} {a : Option Addr} {n : Nat} {L : Nat → Nat} {X : Nat → Nat → Int} (h : Rws w a n L X) (e : a = none) : n = 0 := by
  obtain ⟨b, o, h⟩ := h
  rcases Nat.eq_zero_or_pos n with h0 | h0
  · exact h0
  · have := (h 0 h0).1; rw [e] at this; cases this
theorem box_row (w : World) (x y : Value) : (w.alloc (.cells #[x, y] 32)).rowIs w.heap.size 32 2 (two x y) := World.rowIs_alloc w #[x, y] 32 (two x y) (by
  intro i hi; match i, hi with
  | 0, _ => rfl
  | 1, _ => rfl)
theorem row_below {w w' : World} {b t n : Nat} {f : Nat → Value} (h : w.rowIs b t n f) (hb : Below w.heap.size w w') : w'.rowIs b t n f := h.of_block (hb.block _ h.lt)

set_option maxRecDepth 100000 in
set_option maxHeartbeats 8000000 in
theorem law3_calls {w : World} {a1 a2 a3 a4 : Option Addr} {n1 n2 n3 n4 c1 c2 c3 c4 : Nat} {Z1 Z3 : Nat → Int} {L2 L4 : Nat → Nat} {X2 X4 : Nat → Nat → Int} (h1 : Ints w a1 n1 Z1) (h2 : Rws w a2 n2 L2 X2) (h3 : Ints w a3 n3 Z3) (h4 : Rws w a4 n4 L4 X4)
    (b1 : n1 ≤ 9223372036854775807) (b2 : n2 ≤ 9223372036854775807) (b3 : n3 ≤ 9223372036854775807) (b4 : n4 ≤ 9223372036854775807) (hL2 : ∀ g, g < n2 → L2 g ≤ 9223372036854775807) (hL4 : ∀ g, g < n4 → L4 g ≤ 9223372036854775807) :
    Calls Try.prog 3 #[.slice a1 n1 c1, .slice a2 n2 c2, .slice a3 n3 c3, .slice a4 n4 c4] w (LawPost w) := by
  obtain ⟨k0, hk5, hk0, hk1, hk2⟩ := info_parts Try.info5
  have kz := zzbytes_calls (a1 := a1) (a3 := a3) (c1 := c1) (c2 := c2) (c3 := c3) (c4 := c4) h2 h4 b1 b2 b3 b4 hL2 hL4
  go_enter Try.func3, Try.ntmps3
  go_wp2_with fail
  refine kz.mono ?_
  rintro e w' ⟨he, hw'⟩
  replace hw' := hw'.symm
  subst hw'
  clear kz
  rcases he with rfl | rfl
  rotate_left
  · go_wp2
    go_ret
    exact ⟨rfl, Below.refl _ _⟩
  have k1 := bytesof_calls (a1 := a1) (c1 := c1) (c2 := c2) 0 h2 b1 b2 hL2 (by omega) (by omega)
  go_wp2_with fail
  refine k1.mono ?_
  rintro e w' ⟨⟨r, rfl, q1, q2⟩, hw'⟩
  replace hw' := hw'.symm
  subst hw'
  clear k1
  by_cases hr : 1048576 < r
  · clear q2
    go_wp2
    go_ret
    exact ⟨rfl, Below.refl _ _⟩
  have q3 := q2 (by omega)
  clear q2
  have k1 := bytesof_calls (a1 := a3) (c1 := c3) (c2 := c4) r h4 b3 b4 hL4 q1 (by omega)
  have Q3 : Hid (n1 ≤ 131072 ∧ n2 ≤ 131072 ∧ sumTo L2 n2 ≤ 1048576) := q3
  clear q3
  go_wp2_with fail
  refine k1.mono ?_
  rintro e w' ⟨⟨r2, rfl, q1', q2⟩, hw'⟩
  replace hw' := hw'.symm
  subst hw'
  clear k1
  by_cases hr2 : 1048576 < r2
  · clear q2
    go_wp2
    go_ret
    exact ⟨rfl, Below.refl _ _⟩
  have Q4 : Hid (n3 ≤ 131072 ∧ n4 ≤ 131072 ∧ sumTo L4 n4 ≤ 1048576) := q2 (by omega)
  clear q2
  have k1 := valid_calls (c1 := c1) (c2 := c2) h1 h2 (by have := Q3.out.1; omega) (by have := Q3.out.2.1; omega) (fun g hg => by have := sumTo_one (f := L2) hg; have := Q3.out.2.2; omega)
  go_wp2_with fail
  refine k1.mono ?_
  rintro e w5 ⟨he, hd5⟩
  clear k1
  rcases he with ⟨rfl, e12, g12⟩ | rfl
  rotate_left
  · go_wp2
    go_ret
    exact ⟨rfl, hd5.below⟩
  have E12 : Hid (n1 = n2 ∧ GoodTo Z1 L2 X2 n1) := ⟨e12, g12⟩
  clear e12 g12
  have k1 := valid_calls (c1 := c3) (c2 := c4) (h3.below hd5.below) (h4.below hd5.below) (by have := Q4.out.1; omega) (by have := Q4.out.2.1; omega) (fun g hg => by have := sumTo_one (f := L4) hg; have := Q4.out.2.2; omega)
  go_wp2_with fail
  refine k1.mono ?_
  rintro e w6 ⟨he, hd6⟩
  clear k1
  rcases he with ⟨rfl, e34, g34⟩ | rfl
  rotate_left
  · go_wp2
    go_ret
    exact ⟨rfl, (hd5.trans hd6).below⟩
  obtain ⟨e12, g12⟩ := E12.out
  subst e12
  subst e34
  have hb6 : Below w.heap.size w w6 := (hd5.trans hd6).below
  have hin : In2 w6 a1 a2 a3 a4 (setOf n1 Z1 L2 X2) (setOf n3 Z3 L4 X4) := ⟨(set_in h1 h2 g12).below hb6, (set_in h3 h4 g34).below hb6, valid_of g12, valid_of g34, small_of Q3.out.1 Q3.out.2.2 g12, small_of Q4.out.1 Q4.out.2.2 g34, tots_of Q3.out.2.2, tots_of Q4.out.2.2⟩
  clear h1 h2 h3 h4 hL2 hL4 b1 b2 b3 b4 g12 g34 Q3 Q4 E12 hd5 hd6
  obtain ⟨F, hF⟩ : ∃ F, F = setOf n1 Z1 L2 X2 := ⟨_, rfl⟩
  obtain ⟨T, hT⟩ : ∃ T, T = setOf n3 Z3 L4 X4 := ⟨_, rfl⟩
  obtain rfl : n1 = F.G := by rw [hF]; rfl
  obtain rfl : n3 = T.G := by rw [hT]; rfl
  rw [← hF, ← hT] at hin
  clear hF hT
  have gF : F.G ≤ 1048576 := hin.sF.1
  have gT : T.G ≤ 1048576 := hin.sT.1
  have HIN : Hid (In2 w6 a1 a2 a3 a4 F T) := hin
  have k1 := cloneints_calls (c := c1) hin.iF.sizes (ints_none hin.iF.sizes) gF
  clear hin
  go_wp2_with fail
  refine k1.mono ?_
  rintro e w7 ⟨A1, C1, rfl, i1, _, l7⟩
  have hin7 := HIN.out.below l7
  clear k1 HIN
  have hb7 := hb6.trans (l7.mono hb6.size)
  have k1 := clone_calls (c := c2) hin7.iF.rows (rws_none hin7.iF.rows) gF hin7.sF.2
  go_wp2_with fail
  refine k1.mono ?_
  rintro e w8 ⟨A2, C2, rfl, i2, _, l8⟩
  have hin8 := hin7.below l8
  have i1' := i1.below l8
  have hb8 := hb7.trans (l8.mono hb7.size)
  clear k1 hin7 i1 hb6 l7
  have k1 := cloneints_calls (c := c3) hin8.iT.sizes (ints_none hin8.iT.sizes) gT
  go_wp2_with fail
  refine k1.mono ?_
  rintro e w9 ⟨A3, C3, rfl, i3, _, l9⟩
  have hin9 := hin8.below l9
  have i1 := i1'.below l9
  have i2' := i2.below l9
  have hb9 := hb8.trans (l9.mono hb8.size)
  clear k1 hin8 i1' i2 hb7 l8
  have k1 := clone_calls (c := c4) hin9.iT.rows (rws_none hin9.iT.rows) gT hin9.sT.2
  go_wp2_with fail
  refine k1.mono ?_
  rintro e w10 ⟨A4, C4, rfl, i4, _, l10⟩
  have cl : In2 w10 A1 A2 A3 A4 F T := ⟨⟨i1.below l10, i2'.below l10⟩, ⟨i3.below l10, i4⟩, hin9.vF, hin9.vT, hin9.sF, hin9.sT, hin9.tF, hin9.tT⟩
  have hb10 := hb9.trans (l10.mono hb9.size)
  clear k1 hin9 i1 i2' i3 i4 l10 hb8 hb9 l9
  have k1 := count_calls (c1 := C1) (c2 := C2) cl.iF cl.vF cl.sF cl.tF
  go_wp2_with fail
  refine k1.mono ?_
  rintro e w11 ⟨rfl, d11⟩
  have cl11 := cl.below d11.below
  have hb11 := hb10.trans (d11.below.mono hb10.size)
  clear k1 cl hb10 d11
  have k1 := count_calls (c1 := C3) (c2 := C4) cl11.iT cl11.vT cl11.sT cl11.tT
  go_wp2_with fail
  refine k1.mono ?_
  rintro e w12 ⟨rfl, d12⟩
  have cl12 := cl11.below d12.below
  have hb12 := hb11.trans (d12.below.mono hb11.size)
  clear k1 cl11 hb11 d12
  have tF : tot F ≤ 1048576 := cl12.tF F.G (Nat.le_refl _)
  have tT : tot T ≤ 1048576 := cl12.tT T.G (Nat.le_refl _)
  have k1 := cloneints_calls (c := C1) cl12.iF.sizes (ints_none cl12.iF.sizes) gF
  go_wp2_with fail
  refine k1.mono ?_
  rintro e w13 ⟨D1, E1, rfl, i1, _, l13⟩
  have cl13 := cl12.below l13
  have hb13 := hb12.trans (l13.mono hb12.size)
  clear k1 cl12 hb12 l13
  have k1 := clone_calls (c := C2) cl13.iF.rows (rws_none cl13.iF.rows) gF cl13.sF.2
  go_wp2_with fail
  refine k1.mono ?_
  rintro e w14 ⟨D2, E2, rfl, i2, _, l14⟩
  have cl14 := cl13.below l14
  have hb14 := hb13.trans (l14.mono hb13.size)
  have i1' := i1.below l14
  clear k1 cl13 hb13 l14 i1
  have k1 := newset_calls (c1 := E1) (c2 := E2) (tot F : Int) i1' i2 gF
  go_wp2_with fail
  refine k1.mono ?_
  rintro e w15 ⟨gaF, gcF, rfl, hgF, l15⟩
  have cl15 := cl14.below l15
  have hb15 := hb14.trans (l15.mono hb14.size)
  clear k1 cl14 hb14 l15 i1' i2
  have l16 : Below w15.heap.size w15 (w15.alloc (.cells #[.slice gaF F.G gcF, .int .i64 (tot F : Int)] 32)) := (Below.refl _ _).alloc (Nat.le_refl _) _
  have row16 := box_row w15 (.slice gaF F.G gcF) (.int .i64 (tot F : Int))
  have cl16 := cl15.below l16
  have hgF16 := hgF.below l16
  have hb16 := hb15.trans (l16.mono hb15.size)
  clear cl15 hb15 hgF l16
  obtain ⟨w16, hw16⟩ : ∃ x, x = w15.alloc (.cells #[.slice gaF F.G gcF, .int .i64 (tot F : Int)] 32) := ⟨_, rfl⟩
  rw [← hw16] at row16 cl16 hgF16 hb16
  have H16 : Hid (w16 = w15.alloc (.cells #[.slice gaF F.G gcF, .int .i64 (tot F : Int)] 32)) := hw16
  clear hw16
  have k1 := cloneints_calls (c := C3) cl16.iT.sizes (ints_none cl16.iT.sizes) gT
  go_wp2_with fail
  rw [← H16.out]
  refine k1.mono ?_
  rintro e w17 ⟨D3, E3, rfl, i1, _, l17⟩
  have cl17 := cl16.below l17
  have hb17 := hb16.trans (l17.mono hb16.size)
  have row17 := row_below row16 l17
  have hgF17 := hgF16.below l17
  clear k1 cl16 hb16 row16 hgF16 H16 l17
  have k1 := clone_calls (c := C4) cl17.iT.rows (rws_none cl17.iT.rows) gT cl17.sT.2
  go_wp2_with fail
  refine k1.mono ?_
  rintro e w18 ⟨D4, E4, rfl, i2, _, l18⟩
  have cl18 := cl17.below l18
  have hb18 := hb17.trans (l18.mono hb17.size)
  have row18 := row_below row17 l18
  have hgF18 := hgF17.below l18
  have i1' := i1.below l18
  clear k1 cl17 hb17 row17 hgF17 l18 i1
  have k1 := newset_calls (c1 := E3) (c2 := E4) (tot T : Int) i1' i2 gT
  go_wp2_with fail
  refine k1.mono ?_
  rintro e w19 ⟨gaT, gcT, rfl, hgT, l19⟩
  have cl19 := cl18.below l19
  have hb19 := hb18.trans (l19.mono hb18.size)
  have row19 := row_below row18 l19
  have hgF19 := hgF18.below l19
  clear k1 cl18 hb18 row18 hgF18 l19 i1' i2
  have l20 : Below w19.heap.size w19 (w19.alloc (.cells #[.slice gaT T.G gcT, .int .i64 (tot T : Int)] 32)) := (Below.refl _ _).alloc (Nat.le_refl _) _
  have cl20 := cl19.below l20
  have hgF20 := hgF19.below l20
  have hgT20 := hgT.below l20
  have hb20 := hb19.trans (l20.mono hb19.size)
  have f0 : w19.cell? ⟨w15.heap.size, 0, none⟩ = some (.slice gaF F.G gcF) := row19.cell (i := 0) (by omega)
  have f1 : w19.cell? ⟨w15.heap.size, 1, none⟩ = some (.int .i64 (tot F : Int)) := row19.cell (i := 1) (by omega)
  have hlt15 : w15.heap.size < w19.heap.size := row19.lt
  clear cl19 hb19 hgF19 hgT l20 row19
  have k1 := diff_calls (gc := gcF) (gd := gcT) (tot F : Int) (tot T : Int) hgF20 hgT20 cl20.vF cl20.vT cl20.sF cl20.sT tF
  go_wp2_with fail
  refine k1.mono ?_
  rintro e w21 ⟨ra, rc, za, zc, LS, rfl, la, ln, hrem, hgr, l21⟩
  have cl21 := cl20.below l21
  have hb21 := hb20.trans (l21.mono hb20.size)
  clear k1 cl20 hb20 hgF20 hgT20 l21 f0 f1 hlt15
  have HLA : Hid ((∀ h, h < T.G → LS (T.s h) = addL T F h (T.m h)) ∧ (∀ s, (∀ h, h < T.G → T.s h ≠ s) → LS s = [])) := ⟨la, ln⟩
  have HREM : Hid (I32s w21 ra (remL F T (tot F))) := hrem
  have HGR : Hid (AddG LS w21 za (kk (fun s => (LS s).length) 33)) := hgr
  obtain ⟨RL, hRL⟩ : ∃ RL, RL = (remL F T (tot F)).length := ⟨_, rfl⟩
  obtain ⟨KK, hKK⟩ : ∃ KK, KK = kk (fun s => (LS s).length) 33 := ⟨_, rfl⟩
  obtain ⟨NN, hNN⟩ : ∃ NN, NN = sumTo (fun i => (LS i).length / i) 33 := ⟨_, rfl⟩
  rw [← hRL, ← hKK, ← hNN]
  rw [← hKK] at HGR
  have HRL : Hid (RL = (remL F T (tot F)).length) := hRL
  have HKK : Hid (KK = kk (fun s => (LS s).length) 33) := hKK
  have HNN : Hid (NN = sumTo (fun i => (LS i).length / i) 33) := hNN
  clear la ln hrem hgr hRL hKK hNN
  have l22 : Below w21.heap.size w21 (w21.alloc (.cells #[.slice za KK zc, .int .i64 (NN : Int)] 32)) := (Below.refl _ _).alloc (Nat.le_refl _) _
  have row22 := box_row w21 (.slice za KK zc) (.int .i64 (NN : Int))
  have hmk := run_make_row' (P := Try.prog) 37 4 (.bool false) 1 Try.underlying37 Try.info4 rfl .i64 .i64 (tot F) (by omega) (by omega)
  obtain ⟨w22, hw22⟩ : ∃ x, x = w21.alloc (.cells #[.slice za KK zc, .int .i64 (NN : Int)] 32) := ⟨_, rfl⟩
  have H22 : Hid (w22 = w21.alloc (.cells #[.slice za KK zc, .int .i64 (NN : Int)] 32)) := hw22
  rw [← hw22] at l22 row22
  have hsz22 : w22.heap.size = w21.heap.size + 1 := by rw [hw22, World.size_alloc]
  have cl22 := cl21.below l22
  have hb22 := hb21.trans (l22.mono hb21.size)
  have HREM2 : Hid (I32s w22 ra (remL F T (tot F))) := HREM.out.below l22
  have HGR2 : Hid (AddG LS w22 za KK) := HGR.out.below l22
  have HSZ22 : Hid (w22.heap.size = w21.heap.size + 1) := hsz22
  clear hw22 l22 cl21 hb21 HREM HGR hsz22
  go_wp2_with fail
  rw [← H22.out]
  obtain ⟨B22, hB22⟩ : ∃ B, B = w21.heap.size := ⟨_, rfl⟩
  rw [← hB22] at row22 HSZ22 ⊢
  clear hB22 H22
  go_loopw [17] (fun x wr => ∃ i : Nat, i ≤ F.G ∧ x = .int .i64 i ∧ Mk w22 wr (B22 + 1) (tot F) F T i 0) (fun x _ => F.G - (intOf x).toNat)
  case atStart => exact ⟨0, Nat.zero_le _, rfl, by rw [← HSZ22.out]; exact Mk.start w22 (tot F) F T⟩
  case round =>
    obtain ⟨i, hi, rfl, hmkr⟩ := hrel
    by_cases hlt : i < F.G
    · obtain ⟨zb, zo, hz⟩ := cl22.iF.sizes
      obtain ⟨rb, ro, hrw⟩ := cl22.iF.rows
      obtain ⟨ea1, z1⟩ := hz i hlt
      obtain ⟨ea2, A, C, r1, r2, r3, gb, go, r4⟩ := hrw i hlt
      clear hz hrw
      subst ea1
      subst ea2
      have hs1 := cl22.vF.lo i hlt
      have hs32 := cl22.vF.hi i hlt
      have hm1 := cl22.vF.pos i hlt
      have hMM := cl22.sF.2 i hlt
      have hMp : 0 < F.m i * F.s i := Nat.mul_pos hm1 hs1
      obtain ⟨ea, _⟩ := r4 0 hMp
      subst ea
      have R4 : Hid (∀ t, t < F.m i * F.s i → w22.cell? ⟨gb, go + t, none⟩ = some (.int .u8 (F.X i t)) ∧ 0 ≤ F.X i t ∧ F.X i t ≤ 255) := fun t ht => (r4 t ht).2
      clear r4 r3
      replace r1 : w22.cell? ⟨rb, ro + i, none⟩ = some (.slice (some ⟨gb, go, none⟩) (F.m i * F.s i) C) := r1
      replace r2 : F.m i * F.s i ≤ C := r2
      replace z1 : w22.cell? ⟨zb, zo + i, none⟩ = some (.int .i64 (F.s i : Int)) := z1
      replace z1 := cell_keep' z1 hmkr.below
      replace r1 := cell_keep' r1 hmkr.below
      have HNX : Hid (∀ j, j < F.m i → j * F.s i + F.s i ≤ F.m i * F.s i) := fun j hj => mul_next hj
      obtain ⟨MM, hMMe⟩ : ∃ MM, MM = F.m i * F.s i := ⟨_, rfl⟩
      have HMM : Hid (MM = F.m i * F.s i) := hMMe
      rw [← hMMe] at r1 r2 R4 hMM HNX
      clear hMMe hMp
      go_wp2_with fail
      go_loopw [20] (fun x wi => ∃ j : Nat, j ≤ F.m i ∧ x = .int .i64 ((j * F.s i : Nat) : Int) ∧ Mk w22 wi (B22 + 1) (tot F) F T i j) (fun x _ => MM + F.s i - (intOf x).toNat)
      case atStart => exact ⟨0, Nat.zero_le _, by simp, hmkr⟩
      case round =>
        obtain ⟨j, hj, rfl, hmkj⟩ := hrel
        by_cases hjl : j < F.m i
        · have hnx := HNX.out j hjl
          have HEL : Hid (el F i j = ls (F.s i) (fun t => F.X i (j * F.s i + t))) := rfl
          obtain ⟨q, hq⟩ : ∃ q, q = j * F.s i := ⟨_, rfl⟩
          have HQ : Hid (q = j * F.s i) := hq
          rw [← hq] at HEL hnx ⊢
          clear hq
          have hel : Bts wr (some ⟨gb, go + q, none⟩) (F.s i) (fun t => F.X i (q + t)) := Bts.piece (n := MM) (fun t ht => ⟨cell_keep' (R4.out t ht).1 hmkj.below, (R4.out t ht).2⟩) hnx
          have clr := cl22.below hmkj.below
          have hcon := has_calls (pc := C - q) (c1 := C3) (c2 := C4) hel clr.iT clr.vT clr.sT (by omega)
          rw [← HEL.out] at hcon
          have e1 : (q : Int) + (F.s i : Int) ≤ (MM : Int) := by omega
          have e1' : (q : Int) + (F.s i : Int) ≤ (C : Int) := by omega
          have e2 : ¬ C = q := by omega
          have e3 : q ≤ 1048576 := by omega
          have e4 : F.s i ≤ 1048576 := by omega
          have HB : Hid (BoolPost (hasB T (el F i j)) wr = BoolPost (hasB T (el F i j)) wr) := rfl
          clear HB
          cases hh : hasB T (el F i j) with
          | true =>
            rw [hh] at hcon
            have HMK : Hid (Mk w22 wr (B22 + 1) (tot F) F T i (j + 1)) := hmkj.congr (fun r => (done_has hh).symm)
            clear hh hmkj clr hel
            go_wp2_with fail
            refine hcon.mono ?_
            rintro e w2 ⟨rfl, d2⟩
            have hm2 := HMK.out.drawn d2
            clear hcon d2 HMK
            go_wp2_with fail
            go_roundw
            case rel => exact ⟨j + 1, by omega, by rw [Nat.succ_mul, ← HQ.out]; go_num, hm2⟩
            case measure => simp [intOf]; omega
          | false =>
            rw [hh] at hcon
            have HH : Hid (hasB T (el F i j) = false) := hh
            clear hh
            go_wp2_with fail
            refine hcon.mono ?_
            rintro e w2 ⟨rfl, d2⟩
            have hm2 := hmkj.drawn d2
            have hcon2 := rank_calls (pc := C - q) (c1 := C1) (c2 := C2) (hel.below d2.below) (clr.below d2.below).iF clr.vF clr.sF (by omega) tF
            rw [← HEL.out] at hcon2
            clear hcon hmkj hel clr
            have hrt := rk_lt_tot cl22.vF hlt hjl
            obtain ⟨rr, hrr⟩ : ∃ rr, rr = rk F (el F i j) := ⟨_, rfl⟩
            have HRR : Hid (rr = rk F (el F i j)) := hrr
            rw [← hrr] at hrt hcon2
            clear hrr d2
            go_wp2_with fail
            refine hcon2.mono ?_
            rintro e w3 ⟨rfl, d3⟩
            have HM3 : Hid (Mk w22 w3 (B22 + 1) (tot F) F T i j) := hm2.drawn d3
            obtain ⟨Mf, mrow, _, _⟩ := HM3.out
            have m1 := mrow.cell hrt
            have m2 := mrow.frozen rr
            have HM4 : Hid (Mk w22 (w3.setCell ⟨B22 + 1, rr, none⟩ (.bool true)) (B22 + 1) (tot F) F T i (j + 1)) := by
              rw [HRR.out]
              exact HM3.out.set (by have := HSZ22.out; omega) hlt hjl HH.out
            clear hcon2 hm2 d3 HM3 mrow
            have hri : (rr : Int) < (tot F : Int) := by omega
            go_wp2_with fail
            go_roundw
            case rel => exact ⟨j + 1, by omega, by rw [Nat.succ_mul, ← HQ.out]; go_num, HM4.out⟩
            case measure => simp [intOf]; omega
        · obtain rfl : j = F.m i := by omega
          have HMK : Hid (Mk w22 wr (B22 + 1) (tot F) F T (i + 1) 0) := hmkj.congr (fun r => done_row)
          clear hmkj
          rw [← HMM.out]
          have e1 : ¬ (MM : Int) + (F.s i : Int) ≤ (MM : Int) := by omega
          go_wp2_with fail
          go_roundw
          case rel => exact ⟨i + 1, by omega, by go_num, HMK.out⟩
          case measure => simp [intOf]; omega
    · obtain rfl : i = F.G := by omega
      have cl23 := cl22.below hmkr.below
      have hb23 := hb22.trans (hmkr.below.mono hb22.size)
      have HREM3 : Hid (I32s wr ra (remL F T (tot F))) := HREM2.out.below hmkr.below
      have HGR3 : Hid (AddG LS wr za KK) := HGR2.out.below hmkr.below
      have row23 := row_below row22 hmkr.below
      have MROW : Hid (wr.rowIs (B22 + 1) 4 (tot F) (fun r => .bool (remB F T r))) := mark_row hmkr
      clear cl22 hb22 HREM2 HGR2 row22 hmkr HSZ22 hmk
      obtain ⟨w23, hw23⟩ : ∃ x, x = wr := ⟨_, rfl⟩
      subst hw23
      go_wp2_with fail
      go_loopw [22, 23] (fun y x wi => ∃ r : Nat, r ≤ tot F ∧ x = .int .i64 r ∧ y = .int .i64 ((remL F T r).length : Int) ∧ wi = w23) (fun _ x _ => tot F - (intOf x).toNat)
      case atStart => exact ⟨0, Nat.zero_le _, rfl, rfl, rfl⟩
      case round =>
        obtain ⟨r, hr0, rfl, rfl, hwr⟩ := hrel
        subst hwr
        by_cases hrt : r < tot F
        · have m1 : wr.cell? ⟨B22 + 1, r, none⟩ = some (.bool (remB F T r)) := MROW.out.cell hrt
          have hri : (r : Int) < (tot F : Int) := by omega
          cases hB : remB F T r with
          | false =>
            rw [hB] at m1
            have HS : Hid ((remL F T (r + 1)).length = (remL F T r).length) := by rw [remL_succ, hB]; simp; trivial
            clear hB
            go_wp2_with fail
            go_roundw
            case rel => exact ⟨r + 1, by omega, by go_num, by rw [HS.out], by first | rfl | trivial⟩
            case measure => simp [intOf]; omega
          | true =>
            rw [hB] at m1
            have HS : Hid ((remL F T (r + 1)).length = (remL F T r).length + 1) := by rw [remL_succ, hB]; simp; trivial
            have hget := remL_get hrt hB
            obtain ⟨rbk, hrc⟩ := HREM3.out
            obtain ⟨era, c1⟩ := hrc _ _ hget
            have hklt : (remL F T r).length < RL := by
              rw [HRL.out]
              exact (List.getElem?_eq_some_iff.1 hget).1
            subst era
            clear hB hget hrc
            obtain ⟨kq, hkq⟩ : ∃ kq, kq = (remL F T r).length := ⟨_, rfl⟩
            rw [← hkq] at HS c1 hklt ⊢
            clear hkq
            have hki : (kq : Int) < (RL : Int) := by omega
            have hkl : kq ≤ 9223372036854775806 := by
              have := remL_length F T (tot F)
              have := HRL.out
              omega
            go_wp2_with fail
            go_roundw
            case rel => exact ⟨r + 1, by omega, by go_num, by rw [HS.out]; go_num, by first | rfl | trivial⟩
            case measure => simp [intOf]; omega
        · obtain rfl : r = tot F := by omega
          rw [← HRL.out]
          have f0 : wr.cell? ⟨B22, 0, none⟩ = some (.slice za KK zc) := row23.cell (i := 0) (by omega)
          have f1 : wr.cell? ⟨B22, 1, none⟩ = some (.int .i64 (NN : Int)) := row23.cell (i := 1) (by omega)
          have hK33 : KK ≤ 33 := by rw [HKK.out]; exact kk_le _ _
          have k1 := groupsizes_calls (gc := zc) (NN : Int) HGR3.out (by omega)
          clear MROW HREM3
          go_wp2_with fail
          refine k1.mono ?_
          rintro e w24 ⟨sa, sc, rfl, isz, _, l24⟩
          have cl24 := cl23.below l24
          have hb24 := hb23.trans (l24.mono hb23.size)
          have row24 := row_below row23 l24
          have HGR4 : Hid (AddG LS w24 za KK) := HGR3.out.below l24
          replace f0 := cell_keep' f0 l24
          replace f1 := cell_keep' f1 l24
          clear k1 cl23 hb23 row23 HGR3 l24
          have k1 := groupprefixes_calls (gc := zc) (NN : Int) HGR4.out (by omega)
          go_wp2_with fail
          refine k1.mono ?_
          rintro e w25 ⟨pa, pc, rfl, irw, _, l25⟩
          have cl25 := cl24.below l25
          have hb25 := hb24.trans (l25.mono hb24.size)
          have ISZ : Hid (Ints w25 sa KK (fun k => (nth (fun s => (LS s).length) k : Int))) := isz.below l25
          have IRW : Hid (Rws w25 pa KK (fun k => (LS (nth (fun s => (LS s).length) k)).length) (fun k j => (LS (nth (fun s => (LS s).length) k))[j]?.getD 0)) := irw
          replace f0 := cell_keep' f0 l25
          replace f1 := cell_keep' f1 l25
          clear k1 cl24 hb24 row24 HGR4 l25 isz irw
          go_wp2_with fail
          go_loopw [22, 26, 27] (fun y z x wi => ∃ i : Nat, i ≤ T.G ∧ x = .int .i64 i ∧ y = .int .i64 (kk (fun s => (LS s).length) (bd T i) : Int) ∧ z = .int .i64 (sumTo (fun i => (LS i).length / i) (bd T i) : Int) ∧ Below w25.heap.size w25 wi) (fun _ _ x _ => T.G - (intOf x).toNat)
          case atStart =>
            refine ⟨0, Nat.zero_le _, rfl, ?_, ?_, Below.refl _ _⟩
            · rw [kk_same (Nat.zero_le _) (bd_zero HLA.out.2 cl25.vT)]; rfl
            · rw [sumTo_same (Nat.zero_le _) (fun x h1 h2 => by rw [bd_zero HLA.out.2 cl25.vT x h1 h2]; exact Nat.zero_div _)]; rfl
          case round =>
            obtain ⟨i, hi, rfl, rfl, rfl, hbw⟩ := hrel
            by_cases hlt : i < T.G
            · obtain ⟨zb, zo, hz⟩ := cl25.iT.sizes
              obtain ⟨rb, ro, hrw⟩ := cl25.iT.rows
              obtain ⟨ea1, z1⟩ := hz i hlt
              obtain ⟨ea2, A, C, r1, r2, r3, r4'⟩ := hrw i hlt
              have HBY : Hid (Bts w25 A (T.m i * T.s i) (T.X i)) := r4'
              obtain ⟨gb, go, r4⟩ := r4'
              clear hz hrw
              subst ea1
              subst ea2
              have hs1 := cl25.vT.lo i hlt
              have hs32 := cl25.vT.hi i hlt
              have hm1 := cl25.vT.pos i hlt
              have hMM := cl25.sT.2 i hlt
              have hMp : 0 < T.m i * T.s i := Nat.mul_pos hm1 hs1
              obtain ⟨ea, _⟩ := r4 0 hMp
              subst ea
              have R4 : Hid (∀ t, t < T.m i * T.s i → w25.cell? ⟨gb, go + t, none⟩ = some (.int .u8 (T.X i t)) ∧ 0 ≤ T.X i t ∧ T.X i t ≤ 255) := fun t ht => (r4 t ht).2
              clear r4 r3
              replace r1 : w25.cell? ⟨rb, ro + i, none⟩ = some (.slice (some ⟨gb, go, none⟩) (T.m i * T.s i) C) := r1
              replace r2 : T.m i * T.s i ≤ C := r2
              replace z1 : w25.cell? ⟨zb, zo + i, none⟩ = some (.int .i64 (T.s i : Int)) := z1
              replace z1 := cell_keep' z1 hbw
              replace r1 := cell_keep' r1 hbw
              have HNX : Hid (∀ j, j < T.m i → j * T.s i + T.s i ≤ T.m i * T.s i) := fun j hj => mul_next hj
              have HBD : Hid (bd T i = T.s i) := by show bd T i = T.s i; simp [bd, hlt]
              obtain ⟨hg1, hg2⟩ := bd_gap cl25.vT HLA.out.2 hlt
              have HK1 : Hid (kk (fun s => (LS s).length) (bd T (i + 1)) = kk (fun s => (LS s).length) (T.s i) + (if 0 < (LS (T.s i)).length then 1 else 0)) := by rw [kk_same hg1 hg2]; exact rfl
              have HS1 : Hid (sumTo (fun i => (LS i).length / i) (bd T (i + 1)) = sumTo (fun i => (LS i).length / i) (T.s i) + (LS (T.s i)).length / T.s i) := by rw [sumTo_same hg1 (fun x h1 h2 => by rw [hg2 x h1 h2]; exact Nat.zero_div _)]; exact rfl
              have HLS : Hid (LS (T.s i) = addL T F i (T.m i)) := HLA.out.1 i hlt
              have HKN : Hid (0 < (LS (T.s i)).length → nth (fun s => (LS s).length) (kk (fun s => (LS s).length) (T.s i)) = T.s i ∧ kk (fun s => (LS s).length) (T.s i) < KK) := fun hp => by
                refine ⟨nth_kk (L := fun s => (LS s).length) (by omega) hp, ?_⟩
                rw [HKK.out]
                have h1 : kk (fun s => (LS s).length) (T.s i + 1) = kk (fun s => (LS s).length) (T.s i) + 1 := by simp [kk, hp]
                have h2 := kk_mono (fun s => (LS s).length) (show T.s i + 1 ≤ 33 by omega)
                omega
              have hkb : kk (fun s => (LS s).length) (T.s i) ≤ 33 := by have := kk_le (fun s => (LS s).length) (T.s i); omega
              have htb : sumTo (fun i => (LS i).length / i) (T.s i) ≤ 34603008 := by have := sum_small (ls_small cl25.sT HLA.out) (T.s i); omega
              rw [HBD.out]
              obtain ⟨KQ, hKQ⟩ : ∃ KQ, KQ = kk (fun s => (LS s).length) (T.s i) := ⟨_, rfl⟩
              obtain ⟨TQ, hTQ⟩ : ∃ TQ, TQ = sumTo (fun i => (LS i).length / i) (T.s i) := ⟨_, rfl⟩
              rw [← hKQ] at HK1 HKN hkb ⊢
              rw [← hTQ] at HS1 htb ⊢
              clear hKQ hTQ hg1 hg2 hMp HBD
              obtain ⟨MM, hMMe⟩ : ∃ MM, MM = T.m i * T.s i := ⟨_, rfl⟩
              have HMM : Hid (MM = T.m i * T.s i) := hMMe
              rw [← hMMe] at r1 r2 R4 hMM HNX
              clear hMMe
              obtain ⟨w26, hw26⟩ : ∃ x, x = wr := ⟨_, rfl⟩
              subst hw26
              go_wp2_with fail
              go_loopw [30, 31] (fun v x wi => ∃ j : Nat, j ≤ T.m i ∧ x = .int .i64 ((j * T.s i : Nat) : Int) ∧ Want w26 wi v (addL T F i j)) (fun _ x _ => MM + T.s i - (intOf x).toNat)
              case atStart => exact ⟨0, Nat.zero_le _, by simp, Want.start w26⟩
              case round =>
                obtain ⟨j, hj, rfl, hwant⟩ := hrel
                obtain ⟨va, vl, vc, rfl, hvl⟩ := owns_form hwant.1
                subst hvl
                have hbl := hbw.trans (hwant.2.mono hbw.size)
                have HLEN : Hid ((addL T F i j).length ≤ 1048576) := addL_small (by rw [← HMM.out]; exact hMM) hj
                by_cases hjl : j < T.m i
                · have hnx := HNX.out j hjl
                  have HEL : Hid (el T i j = ls (T.s i) (fun t => T.X i (j * T.s i + t))) := rfl
                  obtain ⟨q, hq⟩ : ∃ q, q = j * T.s i := ⟨_, rfl⟩
                  have HQ : Hid (q = j * T.s i) := hq
                  rw [← hq] at HEL hnx ⊢
                  clear hq
                  have hel : Bts wr (some ⟨gb, go + q, none⟩) (T.s i) (fun t => T.X i (q + t)) := Bts.piece (n := MM) (fun t ht => ⟨cell_keep' (R4.out t ht).1 hbl, (R4.out t ht).2⟩) hnx
                  have clr := cl25.below hbl
                  have hcon := has_calls (pc := C - q) (c1 := C1) (c2 := C2) hel clr.iF clr.vF clr.sF (by omega)
                  rw [← HEL.out] at hcon
                  have e1 : (q : Int) + (T.s i : Int) ≤ (MM : Int) := by omega
                  have e1' : (q : Int) + (T.s i : Int) ≤ (C : Int) := by omega
                  have e2 : ¬ C = q := by omega
                  have e3 : q ≤ 1048576 := by omega
                  have e4 : T.s i ≤ 1048576 := by omega
                  cases hh : hasB F (el T i j) with
                  | true =>
                    rw [hh] at hcon
                    have HAD : Hid (addL T F i (j + 1) = addL T F i j) := by show addL T F i (j + 1) = addL T F i j; simp [addL, hh]
                    have HW : Hid (Want w26 wr (.slice va (addL T F i j).length vc) (addL T F i j)) := hwant
                    clear hh hwant clr hel hbl
                    generalize hal : (addL T F i j).length = AL at *
                    clear hal
                    go_wp2_with fail
                    refine hcon.mono ?_
                    rintro e w2 ⟨rfl, d2⟩
                    have hm2 := HW.out.drawn d2
                    clear hcon d2 HW
                    go_wp2_with fail
                    go_roundw
                    case rel => exact ⟨j + 1, by omega, by rw [Nat.succ_mul, ← HQ.out]; go_num, by rw [HAD.out]; exact hm2⟩
                    case measure => simp [intOf]; omega
                  | false =>
                    rw [hh] at hcon
                    have HAD : Hid (addL T F i (j + 1) = addL T F i j ++ el T i j) := by show addL T F i (j + 1) = addL T F i j ++ el T i j; simp [addL, hh]
                    clear hh
                    go_wp2_with fail
                    refine hcon.mono ?_
                    rintro e w2 ⟨rfl, d2⟩
                    have hm2 := hwant.drawn d2
                    have hel2 := hel.below d2.below
                    have HFO : Hid (w2.ownsRow w26.heap.size 5 1 (.slice va (addL T F i j).length vc) (addL T F i j).length ((addL T F i j).map (.int .u8))) := hm2.1
                    have HCL : Hid (((el T i j).map (Value.int .u8)).length = T.s i * 1) := by rw [List.length_map, el_length, Nat.mul_one]; trivial
                    have HC1 : Hid (∀ t u, ((el T i j).map (Value.int .u8))[t]? = some u → w2.cell? ((⟨gb, go + q, none⟩ : Addr).add t) = some u) := by rw [HEL.out]; exact bts_news hel2
                    have HC2 : Hid (∀ u ∈ (el T i j).map (Value.int .u8), u.oneCell' = true) := by intro u hu; rw [List.mem_map] at hu; obtain ⟨z, _, rfl⟩ := hu; rfl
                    have HC3 : Hid ((addL T F i j).length + T.s i ≤ maxLen) := by unfold maxLen; show _ ≤ _; have := HLEN.out; omega
                    have HC4 : Hid (((addL T F i j).length + T.s i) * 1 ≤ 140737488355328) := by show _ ≤ _; have := HLEN.out; omega
                    have HSZ : Hid (w26.heap.size ≤ w2.heap.size) := hm2.2.size
                    have HW : Hid (Want w26 w2 (.slice va (addL T F i j).length vc) (addL T F i j)) := hm2
                    clear hcon hwant hel clr d2 hm2 hel2 hbl
                    go_wp2_with (first
                      | (at_builtin; refine wpList_append_apart _ rfl _ _ 38 rfl w26.heap.size 5 k0 (.int .u8 0) 1 1 Try.underlying38 hk5 hk0 hk1 hk2 rfl (by decide) (.slice va (addL T F i j).length vc) (addL T F i j).length ((addL T F i j).map (.int .u8)) rfl HFO.out ⟨gb, go + q, none⟩ (T.s i) (C - q) ((el T i j).map (.int .u8)) rfl HCL.out HC1.out HC2.out HC3.out HC4.out HSZ.out ?_))
                    intro v' w3 hown' hgrow' _
                    have hm3 := HW.out.app (el_length T i j) hown' hgrow'
                    clear hown' hgrow' HFO HC1 HW HSZ HC3 HC4 HC2 HCL
                    go_wp2_with fail
                    go_roundw
                    case rel => exact ⟨j + 1, by omega, by rw [Nat.succ_mul, ← HQ.out]; go_num, by rw [HAD.out]; exact hm3⟩
                    case measure => simp [intOf]; omega
                · obtain rfl : j = T.m i := by omega
                  rw [← HMM.out]
                  have e1 : ¬ (MM : Int) + (T.s i : Int) ≤ (MM : Int) := by omega
                  have HW : Hid (Want w26 wr (.slice va (addL T F i (T.m i)).length vc) (addL T F i (T.m i))) := hwant
                  have HBL : Hid (Below w25.heap.size w25 wr) := hbl
                  clear hwant hbl
                  rw [HLS.out] at HK1 HS1 HKN
                  obtain ⟨AL, hAL⟩ : ∃ AL, AL = (addL T F i (T.m i)).length := ⟨_, rfl⟩
                  have HAL : Hid (AL = (addL T F i (T.m i)).length) := hAL
                  rw [← hAL] at HK1 HS1 HKN HLEN ⊢
                  have hAL20 : AL ≤ 1048576 := HLEN.out
                  clear hAL
                  by_cases hpos : 0 < AL
                  · obtain ⟨hnth, hKlt⟩ := HKN.out hpos
                    have hk1 : kk (fun s => (LS s).length) (bd T (i + 1)) = KQ + 1 := by rw [HK1.out, if_pos hpos]
                    have HK2 : Hid (kk (fun s => (LS s).length) (bd T (i + 1)) = KQ + 1) := hk1
                    obtain ⟨yb, yo, hy⟩ := ISZ.out
                    obtain ⟨xb, xo, hx⟩ := IRW.out
                    obtain ⟨es, y1⟩ := hy KQ hKlt
                    obtain ⟨ep, PA, PC, x1, x2, x3, x4⟩ := hx KQ hKlt
                    replace y1 : w25.cell? ⟨yb, yo + KQ, none⟩ = some (.int .i64 (nth (fun s => (LS s).length) KQ : Int)) := y1
                    replace x1 : w25.cell? ⟨xb, xo + KQ, none⟩ = some (.slice PA (LS (nth (fun s => (LS s).length) KQ)).length PC) := x1
                    replace x4 : Bts w25 PA (LS (nth (fun s => (LS s).length) KQ)).length (fun j => (LS (nth (fun s => (LS s).length) KQ))[j]?.getD 0) := x4
                    rw [hnth] at y1 x1 x4
                    rw [HLS.out] at x1 x4
                    subst es
                    subst ep
                    clear hy hx hk1 hnth x2 x3
                    replace y1 := cell_keep' y1 HBL.out
                    replace x1 := cell_keep' x1 HBL.out
                    have hbA := x4.below HBL.out
                    have hbB := bts_of HW.out.1 (addL_byt (F := F) HBY.out (Nat.le_refl _))
                    have hcon := compare_calls (ca := PC) (cb := vc) hbA hbB (by rw [← HAL.out]; exact hAL20) (by rw [← HAL.out]; exact hAL20)
                    rw [lists_cmp, ← HAL.out] at hcon
                    rw [← HAL.out] at x1
                    clear hbA hbB x4 HK1 HKN
                    have hki : (KQ : Int) < (KK : Int) := by omega
                    have hdiv : (AL : Int) / (T.s i : Int) = ((AL / T.s i : Nat) : Int) := (Int.natCast_ediv _ _).symm
                    have hQb : AL / T.s i ≤ AL := Nat.div_le_self _ _
                    have HW2 : Hid (Below w25.heap.size w25 wr) := HBL.out
                    generalize AL / T.s i = QQ at *
                    have hsp : (0 : Int) < (T.s i : Int) := by omega
                    have hA0 : ((AL : Int) == 0) = false := by rw [beq_eq_false_iff_ne]; omega
                    go_wp2_with fail
                    refine hcon.mono ?_
                    rintro e w5 ⟨rfl, d5⟩
                    have hbf := HW2.out.trans (d5.below.mono HW2.out.size)
                    clear hcon d5
                    go_wp2_with fail
                    go_roundw
                    case rel => exact ⟨i + 1, by omega, by go_num, by rw [HK2.out]; go_num, by rw [HS1.out]; go_num, hbf⟩
                    case measure => simp [intOf]; omega
                  · have hA : AL = 0 := by omega
                    subst hA
                    clear HKN
                    go_wp2_with fail
                    go_roundw
                    case rel => exact ⟨i + 1, by omega, by go_num, by rw [HK1.out, if_neg (by omega)]; rfl, by rw [HS1.out, Nat.zero_div]; rfl, HBL.out⟩
                    case measure => simp [intOf]; omega
            · obtain rfl : i = T.G := by omega
              have HBD : Hid (bd T T.G = 33) := by show bd T T.G = 33; simp [bd]
              rw [HBD.out, ← HKK.out, ← HNN.out]
              replace f0 := cell_keep' f0 hbw
              replace f1 := cell_keep' f1 hbw
              have k1 := len_calls (w := wr) (.slice za KK zc) (NN : Int)
              have hbf := hb25.trans (hbw.mono hb25.size)
              clear cl25 hb25 hbw
              go_wp2_with fail
              refine k1.mono ?_
              rintro e w27 ⟨rfl, l27⟩
              have hend := hbf.trans (l27.mono hbf.size)
              clear k1
              go_wp2
              go_ret
              exact ⟨rfl, hend⟩
end Go.Proofs.Qxb6627355a
