import Derived.Test.Qxb6627355aAddIn
namespace Go.Proofs.Qxb6627355a
open Go.RowKit

/-- The two sets and their boxes. -/
structure Bag (w0 w : World) (A1 A2 A3 A4 : Option Addr) (F T : St) (B12 B13 : Nat) (gaF gaT : Option Addr) (gcF gcT : Nat) : Prop where
  cl : In2 w A1 A2 A3 A4 F T
  hb : Below w0.heap.size w0 w
  r12 : w.rowIs B12 32 2 (two (.slice gaF F.G gcF) (.int .i64 (tot F : Int)))
  r13 : w.rowIs B13 32 2 (two (.slice gaT T.G gcT) (.int .i64 (tot T : Int)))
  gF : Grs w gaF F.G (fun g => (F.s g : Int)) (fun g => F.m g * F.s g) F.X
  gT : Grs w gaT T.G (fun g => (T.s g : Int)) (fun g => T.m g * T.s g) T.X
theorem Bag.below {w0 w w' : World} {A1 A2 A3 A4 : Option Addr} {F T : St} {B12 B13 : Nat} {gaF gaT : Option Addr} {gcF gcT : Nat} (h : Bag w0 w A1 A2 A3 A4 F T B12 B13 gaF gaT gcF gcT) (l : Below w.heap.size w w') : Bag w0 w' A1 A2 A3 A4 F T B12 B13 gaF gaT gcF gcT :=
  ⟨h.cl.below l, h.hb.trans (l.mono h.hb.size), row_below h.r12 l, row_below h.r13 l, h.gF.below l, h.gT.below l⟩
/-- All that the checks read. -/
structure Fin (w0 w : World) (A1 A2 A3 A4 sa1 pa1 sa2 pa2 ra1 ra2 za1 za2 za0 : Option Addr) (F T S1 S2 : St) (B15 B17 B19 zc1 zc2 zc0 : Nat) : Prop where
  cl : In2 w A1 A2 A3 A4 F T
  hb : Below w0.heap.size w0 w
  i1 : SetIn w sa1 pa1 S1
  i2 : SetIn w sa2 pa2 S2
  m1 : I32s w ra1 (remL F T (tot F))
  m2 : I32s w ra2 (remL T F (tot T))
  r15 : w.rowIs B15 32 2 (two (.slice za1 S1.G zc1) (.int .i64 (tot S1 : Int)))
  r17 : w.rowIs B17 32 2 (two (.slice za2 S2.G zc2) (.int .i64 (tot S2 : Int)))
  r19 : w.rowIs B19 32 2 (two (.slice za0 0 zc0) (.int .i64 0))
theorem Fin.below {w0 w w' : World} {A1 A2 A3 A4 sa1 pa1 sa2 pa2 ra1 ra2 za1 za2 za0 : Option Addr} {F T S1 S2 : St} {B15 B17 B19 zc1 zc2 zc0 : Nat} (h : Fin w0 w A1 A2 A3 A4 sa1 pa1 sa2 pa2 ra1 ra2 za1 za2 za0 F T S1 S2 B15 B17 B19 zc1 zc2 zc0) (l : Below w.heap.size w w') : Fin w0 w' A1 A2 A3 A4 sa1 pa1 sa2 pa2 ra1 ra2 za1 za2 za0 F T S1 S2 B15 B17 B19 zc1 zc2 zc0 :=
  ⟨h.cl.below l, h.hb.trans (l.mono h.hb.size), h.i1.below l, h.i2.below l, h.m1.below l, h.m2.below l, row_below h.r15 l, row_below h.r17 l, row_below h.r19 l⟩
/-- What the checks know of an added set. -/
structure AddOk (F T S : St) : Prop where
  v : Valid S
  s : Small S
  t : ∀ g, g ≤ S.G → sumTo S.m g ≤ 1048576
  pk : ∀ k, k < tot S → ∃ g j h x, g < S.G ∧ j < S.m g ∧ h < T.G ∧ x < T.m h ∧ el S g j = el T h x ∧ S.s g = T.s h ∧ rk S (el S g j) = k ∧ (remL T F (tot T))[k]? = some (rk T (el T h x))
theorem Gath.ok {F T : St} {LS : Nat → List Int} (hv : Valid T) (hs : Small T) (ht : tot T ≤ 1048576) (hg : Gath F T LS) : AddOk F T (addS LS) := ⟨hg.valid hv, hg.small hv hs, hg.tots hv ht, fun _ hk => hg.pick hv hk⟩
/-- One Difference's results. -/
structure Dif (w : World) (F T : St) (LS : Nat → List Int) (ra za : Option Addr) (RL KK NN : Nat) : Prop where
  g : Gath F T LS
  rl : RL = (remL F T (tot F)).length
  ek : KK = kk (lenL LS) 33
  en : NN = sumTo (fun i => (LS i).length / i) 33
  rem : I32s w ra (remL F T (tot F))
  add : Grs w za KK (fun k => (nth (lenL LS) k : Int)) (fun k => (LS (nth (lenL LS) k)).length) (fun k j => (LS (nth (lenL LS) k))[j]?.getD 0)
theorem Dif.below {w w' : World} {F T : St} {LS : Nat → List Int} {ra za : Option Addr} {RL KK NN : Nat} (h : Dif w F T LS ra za RL KK NN) (l : Below w.heap.size w w') : Dif w' F T LS ra za RL KK NN := ⟨h.g, h.rl, h.ek, h.en, h.rem.below l, h.add.below l⟩
def DifPost (F T : St) (w : World) (e : Ending) (w' : World) : Prop :=
  ∃ (ra : Option Addr) (rc : Nat) (za : Option Addr) (zc : Nat) (LS : Nat → List Int) (RL KK NN : Nat), e = .returned (.tuple #[.slice ra RL rc, .agg #[.slice za KK zc, .int .i64 (NN : Int)]]) ∧ Dif w' F T LS ra za RL KK NN ∧ Below w.heap.size w w'
theorem dif_calls {w : World} {ga gb : Option Addr} {gc gd : Nat} {F T : St} (n1 n2 : Int) (hF : Grs w ga F.G (fun g => (F.s g : Int)) (fun g => F.m g * F.s g) F.X) (hT : Grs w gb T.G (fun g => (T.s g : Int)) (fun g => T.m g * T.s g) T.X)
    (vF : Valid F) (vT : Valid T) (sF : Small F) (sT : Small T) (tF : tot F ≤ 1048576) :
    Calls Try.prog 12 #[.agg #[.slice ga F.G gc, .int .i64 n1], .agg #[.slice gb T.G gd, .int .i64 n2]] w (DifPost F T w) := by
  refine (diff_calls n1 n2 hF hT vF vT sF sT tF).mono ?_
  rintro e w' ⟨ra, rc, za, zc, LS, rfl, la, ln, h1, h2, h3⟩
  exact ⟨ra, rc, za, zc, LS, _, _, _, rfl, ⟨⟨la, ln⟩, rfl, rfl, rfl, h1, h2⟩, h3⟩

set_option maxRecDepth 100000 in
set_option maxHeartbeats 8000000 in
theorem law4_calls {w : World} {a1 a2 a3 a4 : Option Addr} {n1 n2 n3 n4 c1 c2 c3 c4 : Nat} {Z1 Z3 : Nat → Int} {L2 L4 : Nat → Nat} {X2 X4 : Nat → Nat → Int} (h1 : Ints w a1 n1 Z1) (h2 : Rws w a2 n2 L2 X2) (h3 : Ints w a3 n3 Z3) (h4 : Rws w a4 n4 L4 X4)
    (b1 : n1 ≤ 9223372036854775807) (b2 : n2 ≤ 9223372036854775807) (b3 : n3 ≤ 9223372036854775807) (b4 : n4 ≤ 9223372036854775807) (hL2 : ∀ g, g < n2 → L2 g ≤ 9223372036854775807) (hL4 : ∀ g, g < n4 → L4 g ≤ 9223372036854775807) :
    Calls Try.prog 4 #[.slice a1 n1 c1, .slice a2 n2 c2, .slice a3 n3 c3, .slice a4 n4 c4] w (LawPost w) := by
  obtain ⟨k0, hk5, hk0, hk1, hk2⟩ := info_parts Try.info5
  have kz := zzbytes2_calls (a1 := a1) (a3 := a3) (c1 := c1) (c2 := c2) (c3 := c3) (c4 := c4) h2 h4 b1 b2 b3 b4 hL2 hL4
  go_enter Try.func4, Try.ntmps4
  go_wp2_with fail
  refine kz.mono ?_
  rintro e w' ⟨he, hw'⟩
  replace hw' := hw'.symm
  subst hw'
  clear kz
  rcases he with rfl | rfl
  rotate_left
  · go_wp2
    go_ret
    exact ⟨rfl, Below.refl _ _⟩
  have k1 := bytesof_calls (a1 := a1) (c1 := c1) (c2 := c2) 0 h2 b1 b2 hL2 (by omega) (by omega)
  go_wp2_with fail
  refine k1.mono ?_
  rintro e w' ⟨⟨r, rfl, q1, q2⟩, hw'⟩
  replace hw' := hw'.symm
  subst hw'
  clear k1
  by_cases hr : 1048576 < r
  · clear q2
    go_wp2
    go_ret
    exact ⟨rfl, Below.refl _ _⟩
  have q3 := q2 (by omega)
  clear q2
  have k1 := bytesof_calls (a1 := a3) (c1 := c3) (c2 := c4) r h4 b3 b4 hL4 q1 (by omega)
  have Q3 : Hid (n1 ≤ 131072 ∧ n2 ≤ 131072 ∧ sumTo L2 n2 ≤ 1048576) := q3
  clear q3
  go_wp2_with fail
  refine k1.mono ?_
  rintro e w' ⟨⟨r2, rfl, q1', q2⟩, hw'⟩
  replace hw' := hw'.symm
  subst hw'
  clear k1
  by_cases hr2 : 1048576 < r2
  · clear q2
    go_wp2
    go_ret
    exact ⟨rfl, Below.refl _ _⟩
  have Q4 : Hid (n3 ≤ 131072 ∧ n4 ≤ 131072 ∧ sumTo L4 n4 ≤ 1048576) := q2 (by omega)
  clear q2
  have k1 := valid_calls (c1 := c1) (c2 := c2) h1 h2 (by have := Q3.out.1; omega) (by have := Q3.out.2.1; omega) (fun g hg => by have := sumTo_one (f := L2) hg; have := Q3.out.2.2; omega)
  go_wp2_with fail
  refine k1.mono ?_
  rintro e w5 ⟨he, hd5⟩
  clear k1
  rcases he with ⟨rfl, e12, g12⟩ | rfl
  rotate_left
  · go_wp2
    go_ret
    exact ⟨rfl, hd5.below⟩
  have E12 : Hid (n1 = n2 ∧ GoodTo Z1 L2 X2 n1) := ⟨e12, g12⟩
  clear e12 g12
  have k1 := valid_calls (c1 := c3) (c2 := c4) (h3.below hd5.below) (h4.below hd5.below) (by have := Q4.out.1; omega) (by have := Q4.out.2.1; omega) (fun g hg => by have := sumTo_one (f := L4) hg; have := Q4.out.2.2; omega)
  go_wp2_with fail
  refine k1.mono ?_
  rintro e w6 ⟨he, hd6⟩
  clear k1
  rcases he with ⟨rfl, e34, g34⟩ | rfl
  rotate_left
  · go_wp2
    go_ret
    exact ⟨rfl, (hd5.trans hd6).below⟩
  obtain ⟨e12, g12⟩ := E12.out
  subst e12
  subst e34
  have hb6 : Below w.heap.size w w6 := (hd5.trans hd6).below
  have hin : In2 w6 a1 a2 a3 a4 (setOf n1 Z1 L2 X2) (setOf n3 Z3 L4 X4) := ⟨(set_in h1 h2 g12).below hb6, (set_in h3 h4 g34).below hb6, valid_of g12, valid_of g34, small_of Q3.out.1 Q3.out.2.2 g12, small_of Q4.out.1 Q4.out.2.2 g34, tots_of Q3.out.2.2, tots_of Q4.out.2.2⟩
  clear h1 h2 h3 h4 hL2 hL4 b1 b2 b3 b4 g12 g34 Q3 Q4 E12 hd5 hd6
  obtain ⟨F, hF⟩ : ∃ F, F = setOf n1 Z1 L2 X2 := ⟨_, rfl⟩
  obtain ⟨T, hT⟩ : ∃ T, T = setOf n3 Z3 L4 X4 := ⟨_, rfl⟩
  obtain rfl : n1 = F.G := by rw [hF]; rfl
  obtain rfl : n3 = T.G := by rw [hT]; rfl
  rw [← hF, ← hT] at hin
  clear hF hT
  have gF : F.G ≤ 1048576 := hin.sF.1
  have gT : T.G ≤ 1048576 := hin.sT.1
  have HIN : Hid (In2 w6 a1 a2 a3 a4 F T) := hin
  have k1 := cloneints_calls (c := c1) hin.iF.sizes (ints_none hin.iF.sizes) gF
  clear hin
  go_wp2_with fail
  refine k1.mono ?_
  rintro e w7 ⟨A1, C1, rfl, i1, _, l7⟩
  have hin7 := HIN.out.below l7
  clear k1 HIN
  have hb7 := hb6.trans (l7.mono hb6.size)
  have k1 := clone_calls (c := c2) hin7.iF.rows (rws_none hin7.iF.rows) gF hin7.sF.2
  go_wp2_with fail
  refine k1.mono ?_
  rintro e w8 ⟨A2, C2, rfl, i2, _, l8⟩
  have hin8 := hin7.below l8
  have i1' := i1.below l8
  have hb8 := hb7.trans (l8.mono hb7.size)
  clear k1 hin7 i1 hb6 l7
  have k1 := cloneints_calls (c := c3) hin8.iT.sizes (ints_none hin8.iT.sizes) gT
  go_wp2_with fail
  refine k1.mono ?_
  rintro e w9 ⟨A3, C3, rfl, i3, _, l9⟩
  have hin9 := hin8.below l9
  have i1 := i1'.below l9
  have i2' := i2.below l9
  have hb9 := hb8.trans (l9.mono hb8.size)
  clear k1 hin8 i1' i2 hb7 l8
  have k1 := clone_calls (c := c4) hin9.iT.rows (rws_none hin9.iT.rows) gT hin9.sT.2
  go_wp2_with fail
  refine k1.mono ?_
  rintro e w10 ⟨A4, C4, rfl, i4, _, l10⟩
  have cl : In2 w10 A1 A2 A3 A4 F T := ⟨⟨i1.below l10, i2'.below l10⟩, ⟨i3.below l10, i4⟩, hin9.vF, hin9.vT, hin9.sF, hin9.sT, hin9.tF, hin9.tT⟩
  have hb10 := hb9.trans (l10.mono hb9.size)
  clear k1 hin9 i1 i2' i3 i4 l10 hb8 hb9 l9
  have k1 := count_calls (c1 := C1) (c2 := C2) cl.iF cl.vF cl.sF cl.tF
  go_wp2_with fail
  refine k1.mono ?_
  rintro e w11 ⟨rfl, d11⟩
  have cl11 := cl.below d11.below
  have hb11 := hb10.trans (d11.below.mono hb10.size)
  clear k1 cl hb10 d11
  have k1 := count_calls (c1 := C3) (c2 := C4) cl11.iT cl11.vT cl11.sT cl11.tT
  go_wp2_with fail
  refine k1.mono ?_
  rintro e w12 ⟨rfl, d12⟩
  have cl12 := cl11.below d12.below
  have hb12 := hb11.trans (d12.below.mono hb11.size)
  clear k1 cl11 hb11 d12
  have tF : tot F ≤ 1048576 := cl12.tF F.G (Nat.le_refl _)
  have tT : tot T ≤ 1048576 := cl12.tT T.G (Nat.le_refl _)
  have k1 := cloneints_calls (c := C1) cl12.iF.sizes (ints_none cl12.iF.sizes) gF
  go_wp2_with fail
  refine k1.mono ?_
  rintro e w13 ⟨D1, E1, rfl, i1, _, l13⟩
  have cl13 := cl12.below l13
  have hb13 := hb12.trans (l13.mono hb12.size)
  clear k1 cl12 hb12 l13
  have k1 := clone_calls (c := C2) cl13.iF.rows (rws_none cl13.iF.rows) gF cl13.sF.2
  go_wp2_with fail
  refine k1.mono ?_
  rintro e w14 ⟨D2, E2, rfl, i2, _, l14⟩
  have cl14 := cl13.below l14
  have hb14 := hb13.trans (l14.mono hb13.size)
  have i1' := i1.below l14
  clear k1 cl13 hb13 l14 i1
  have k1 := newset_calls (c1 := E1) (c2 := E2) (tot F : Int) i1' i2 gF
  go_wp2_with fail
  refine k1.mono ?_
  rintro e w15 ⟨gaF, gcF, rfl, hgF, l15⟩
  have cl15 := cl14.below l15
  have hb15 := hb14.trans (l15.mono hb14.size)
  clear k1 cl14 hb14 l15 i1' i2
  have l16 : Below w15.heap.size w15 (w15.alloc (.cells #[.slice gaF F.G gcF, .int .i64 (tot F : Int)] 32)) := (Below.refl _ _).alloc (Nat.le_refl _) _
  have row16 := box_row w15 (.slice gaF F.G gcF) (.int .i64 (tot F : Int))
  have cl16 := cl15.below l16
  have hgF16 := hgF.below l16
  have hb16 := hb15.trans (l16.mono hb15.size)
  clear cl15 hb15 hgF l16
  obtain ⟨w16, hw16⟩ : ∃ x, x = w15.alloc (.cells #[.slice gaF F.G gcF, .int .i64 (tot F : Int)] 32) := ⟨_, rfl⟩
  rw [← hw16] at row16 cl16 hgF16 hb16
  have H16 : Hid (w16 = w15.alloc (.cells #[.slice gaF F.G gcF, .int .i64 (tot F : Int)] 32)) := hw16
  clear hw16
  have k1 := cloneints_calls (c := C3) cl16.iT.sizes (ints_none cl16.iT.sizes) gT
  go_wp2_with fail
  rw [← H16.out]
  refine k1.mono ?_
  rintro e w17 ⟨D3, E3, rfl, i1, _, l17⟩
  have cl17 := cl16.below l17
  have hb17 := hb16.trans (l17.mono hb16.size)
  have row17 := row_below row16 l17
  have hgF17 := hgF16.below l17
  clear k1 cl16 hb16 row16 hgF16 H16 l17
  have k1 := clone_calls (c := C4) cl17.iT.rows (rws_none cl17.iT.rows) gT cl17.sT.2
  go_wp2_with fail
  refine k1.mono ?_
  rintro e w18 ⟨D4, E4, rfl, i2, _, l18⟩
  have cl18 := cl17.below l18
  have hb18 := hb17.trans (l18.mono hb17.size)
  have row18 := row_below row17 l18
  have hgF18 := hgF17.below l18
  have i1' := i1.below l18
  clear k1 cl17 hb17 row17 hgF17 l18 i1
  have k1 := newset_calls (c1 := E3) (c2 := E4) (tot T : Int) i1' i2 gT
  go_wp2_with fail
  refine k1.mono ?_
  rintro e w19 ⟨gaT, gcT, rfl, hgT, l19⟩
  have cl19 := cl18.below l19
  have hb19 := hb18.trans (l19.mono hb18.size)
  have row19 := row_below row18 l19
  have hgF19 := hgF18.below l19
  clear k1 cl18 hb18 row18 hgF18 l19 i1' i2
  obtain ⟨w20, hw20⟩ : ∃ x, x = w19.alloc (.cells #[.slice gaT T.G gcT, .int .i64 (tot T : Int)] 32) := ⟨_, rfl⟩
  have Hw20 : Hid (w20 = w19.alloc (.cells #[.slice gaT T.G gcT, .int .i64 (tot T : Int)] 32)) := hw20
  have lw20 : Below w19.heap.size w19 w20 := by rw [hw20]; exact (Below.refl _ _).alloc (Nat.le_refl _) _
  have roww20 : w20.rowIs w19.heap.size 32 2 (two (.slice gaT T.G gcT) (.int .i64 (tot T : Int))) := by rw [hw20]; exact box_row w19 _ _
  clear hw20
  have bag : Bag w w20 A1 A2 A3 A4 F T w15.heap.size w19.heap.size gaF gaT gcF gcT := ⟨cl19.below lw20, hb19.trans (lw20.mono hb19.size), row_below row19 lw20, roww20, hgF19.below lw20, hgT.below lw20⟩
  clear cl19 hb19 hgF19 hgT lw20 roww20
  have vF := bag.cl.vF
  have vT := bag.cl.vT
  have sF := bag.cl.sF
  have sT := bag.cl.sT
  have f0 : w19.cell? ⟨w15.heap.size, 0, none⟩ = some (.slice gaF F.G gcF) := row19.cell (i := 0) (by omega)
  have f1 : w19.cell? ⟨w15.heap.size, 1, none⟩ = some (.int .i64 (tot F : Int)) := row19.cell (i := 1) (by omega)
  have hlt15 : w15.heap.size < w19.heap.size := row19.lt
  clear row19
  have k1 := dif_calls (gc := gcF) (gd := gcT) (tot F : Int) (tot T : Int) bag.gF bag.gT vF vT sF sT tF
  go_wp2_with fail
  rw [← Hw20.out]
  refine k1.mono ?_
  rintro e w21 ⟨ra1, rc1, za1, zc1, LS1, RL1, KK1, NN1, rfl, D1, l21⟩
  have bag21 := bag.below l21
  clear k1 bag l21 f0 f1 hlt15 Hw20
  have p0 : w21.cell? ⟨w15.heap.size, 0, none⟩ = some (.slice gaF F.G gcF) := bag21.r12.cell (i := 0) (by omega)
  have p1 : w21.cell? ⟨w15.heap.size, 1, none⟩ = some (.int .i64 (tot F : Int)) := bag21.r12.cell (i := 1) (by omega)
  have pl : w15.heap.size < w21.heap.size := bag21.r12.lt
  have q0 : w21.cell? ⟨w19.heap.size, 0, none⟩ = some (.slice gaT T.G gcT) := bag21.r13.cell (i := 0) (by omega)
  have q1 : w21.cell? ⟨w19.heap.size, 1, none⟩ = some (.int .i64 (tot T : Int)) := bag21.r13.cell (i := 1) (by omega)
  have ql : w19.heap.size < w21.heap.size := bag21.r13.lt
  obtain ⟨w22, hw22⟩ : ∃ x, x = w21.alloc (.cells #[.slice za1 KK1 zc1, .int .i64 (NN1 : Int)] 32) := ⟨_, rfl⟩
  have Hw22 : Hid (w22 = w21.alloc (.cells #[.slice za1 KK1 zc1, .int .i64 (NN1 : Int)] 32)) := hw22
  have lw22 : Below w21.heap.size w21 w22 := by rw [hw22]; exact (Below.refl _ _).alloc (Nat.le_refl _) _
  have roww22 : w22.rowIs w21.heap.size 32 2 (two (.slice za1 KK1 zc1) (.int .i64 (NN1 : Int))) := by rw [hw22]; exact box_row w21 _ _
  clear hw22
  have bag22 := bag21.below lw22
  have D122 := D1.below lw22
  clear bag21 D1 lw22
  have k1 := dif_calls (gc := gcT) (gd := gcF) (tot T : Int) (tot F : Int) bag22.gT bag22.gF vT vF sT sF tT
  go_wp2_with fail
  rw [← Hw22.out]
  refine k1.mono ?_
  rintro e w23 ⟨ra2, rc2, za2, zc2, LS2, RL2, KK2, NN2, rfl, D2, l23⟩
  have bag23 := bag22.below l23
  have D123 := D122.below l23
  have r15 := row_below roww22 l23
  clear k1 bag22 D122 roww22 l23 Hw22 p0 p1 pl q0 q1 ql
  have p0 : w23.cell? ⟨w15.heap.size, 0, none⟩ = some (.slice gaF F.G gcF) := bag23.r12.cell (i := 0) (by omega)
  have p1 : w23.cell? ⟨w15.heap.size, 1, none⟩ = some (.int .i64 (tot F : Int)) := bag23.r12.cell (i := 1) (by omega)
  have pl : w15.heap.size < w23.heap.size := bag23.r12.lt
  obtain ⟨w24, hw24⟩ : ∃ x, x = w23.alloc (.cells #[.slice za2 KK2 zc2, .int .i64 (NN2 : Int)] 32) := ⟨_, rfl⟩
  have Hw24 : Hid (w24 = w23.alloc (.cells #[.slice za2 KK2 zc2, .int .i64 (NN2 : Int)] 32)) := hw24
  have lw24 : Below w23.heap.size w23 w24 := by rw [hw24]; exact (Below.refl _ _).alloc (Nat.le_refl _) _
  have roww24 : w24.rowIs w23.heap.size 32 2 (two (.slice za2 KK2 zc2) (.int .i64 (NN2 : Int))) := by rw [hw24]; exact box_row w23 _ _
  clear hw24
  have bag24 := bag23.below lw24
  have D124 := D123.below lw24
  have D224 := D2.below lw24
  have r15' := row_below r15 lw24
  clear bag23 D123 D2 r15 lw24
  have k1 := dif_calls (gc := gcF) (gd := gcF) (tot F : Int) (tot F : Int) bag24.gF bag24.gF vF vF sF sF tF
  go_wp2_with fail
  rw [← Hw24.out]
  refine k1.mono ?_
  rintro e w25 ⟨ra0, rc0, za0, zc0, LS0, RL0, KK0, NN0, rfl, D0', l25⟩
  have bag25 := bag24.below l25
  have D125 := D124.below l25
  have D225 := D224.below l25
  have r15 := row_below r15' l25
  have r17 := row_below roww24 l25
  clear k1 bag24 D124 D224 r15' roww24 l25 Hw24 p0 p1 pl
  have O1 := D125.g.ok vT sT tT
  have O2 := D225.g.ok vF sF tF
  have SI1 : Hid (∀ (wz : World) (x y : Option Addr), Ints wz x (kk (lenL LS1) 33) (fun k => (nth (lenL LS1) k : Int)) → Rws wz y (kk (lenL LS1) 33) (fun k => (LS1 (nth (lenL LS1) k)).length) (fun k j => (LS1 (nth (lenL LS1) k))[j]?.getD 0) → SetIn wz x y (addS LS1)) := fun _ _ _ h1 h2 => D125.g.setIn vT h1 h2
  have SI2 : Hid (∀ (wz : World) (x y : Option Addr), Ints wz x (kk (lenL LS2) 33) (fun k => (nth (lenL LS2) k : Int)) → Rws wz y (kk (lenL LS2) 33) (fun k => (LS2 (nth (lenL LS2) k)).length) (fun k j => (LS2 (nth (lenL LS2) k))[j]?.getD 0) → SetIn wz x y (addS LS2)) := fun _ _ _ h1 h2 => D225.g.setIn vF h1 h2
  have ek1 := D125.ek
  have ek2 := D225.ek
  have en1 : NN1 = tot (addS LS1) := by rw [D125.en, Gath.tot_sizes]
  have en2 : NN2 = tot (addS LS2) := by rw [D225.en, Gath.tot_sizes]
  have er1 : RL1 = tot (addS LS2) := by rw [D125.rl, D225.g.count vF]
  have er2 : RL2 = tot (addS LS1) := by rw [D225.rl, D125.g.count vT]
  have hbal : tot F + tot (addS LS1) = tot T + tot (addS LS2) := by
    rw [D125.g.count vT, D225.g.count vF]; exact balance vF vT
  have er0 : RL0 = 0 := by rw [D0'.rl]; exact rem_self vF
  have ek0 : KK0 = 0 := by rw [D0'.ek]; exact kk_none D0'.g.self 33
  have en0 : NN0 = 0 := by
    rw [D0'.en]; exact sumTo_zero (fun i _ => by rw [D0'.g.self i]; exact Nat.zero_div _)
  have M1 : Hid (I32s w25 ra1 (remL F T (tot F))) := D125.rem
  have M2 : Hid (I32s w25 ra2 (remL T F (tot T))) := D225.rem
  have AD1 := D125.add
  have AD2 := D225.add
  have AD0 := D0'.add
  clear D125 D225 D0'
  subst er0 ek0 en0
  rw [ek1] at AD1
  rw [ek2] at AD2
  obtain ⟨S1, hS1⟩ : ∃ S, S = addS LS1 := ⟨_, rfl⟩
  obtain ⟨S2, hS2⟩ : ∃ S, S = addS LS2 := ⟨_, rfl⟩
  have ek1' : KK1 = S1.G := by rw [hS1]; exact ek1
  have ek2' : KK2 = S2.G := by rw [hS2]; exact ek2
  have eg1 : kk (lenL LS1) 33 = S1.G := by rw [hS1]; rfl
  have eg2 : kk (lenL LS2) 33 = S2.G := by rw [hS2]; rfl
  rw [eg1] at AD1 SI1
  rw [eg2] at AD2 SI2
  rw [← hS1] at O1 SI1 en1 er2 hbal
  rw [← hS2] at O2 SI2 en2 er1 hbal
  clear ek1 ek2 eg1 eg2 hS1 hS2
  subst ek1' ek2' en1 en2 er1 er2
  have t1 : tot S1 ≤ 1048576 := O1.t _ (Nat.le_refl _)
  have t2 : tot S2 ≤ 1048576 := O2.t _ (Nat.le_refl _)
  have HBAL : Hid (tot F + tot S1 = tot T + tot S2) := hbal
  clear hbal
  have gS1 : S1.G ≤ 1048576 := O1.s.1
  have gS2 : S2.G ≤ 1048576 := O2.s.1
  have s0 : w25.cell? ⟨w21.heap.size, 0, none⟩ = some (.slice za1 S1.G zc1) := r15.cell (i := 0) (by omega)
  have s1 : w25.cell? ⟨w21.heap.size, 1, none⟩ = some (.int .i64 (tot S1 : Int)) := r15.cell (i := 1) (by omega)
  have sl := r15.lt
  obtain ⟨w26, hw26⟩ : ∃ x, x = w25.alloc (.cells #[.slice za0 0 zc0, .int .i64 0] 32) := ⟨_, rfl⟩
  have Hw26 : Hid (w26 = w25.alloc (.cells #[.slice za0 0 zc0, .int .i64 0] 32)) := hw26
  have lw26 : Below w25.heap.size w25 w26 := by rw [hw26]; exact (Below.refl _ _).alloc (Nat.le_refl _) _
  have roww26 : w26.rowIs w25.heap.size 32 2 (two (.slice za0 0 zc0) (.int .i64 0)) := by rw [hw26]; exact box_row w25 _ _
  clear hw26
  have bag26 := bag25.below lw26
  have AD1' := AD1.below lw26
  have AD2' := AD2.below lw26
  have r15' := row_below r15 lw26
  have r17' := row_below r17 lw26
  have M1' : Hid (I32s w26 ra1 (remL F T (tot F))) := M1.out.below lw26
  have M2' : Hid (I32s w26 ra2 (remL T F (tot T))) := M2.out.below lw26
  clear bag25 AD1 AD2 AD0 r15 r17 M1 M2 lw26
  have k1 := groupsizes_calls (gc := zc1) (tot S1 : Int) AD1' gS1
  go_wp2_with fail
  rw [← Hw26.out]
  refine k1.mono ?_
  rintro e w27 ⟨sa1, sc1, rfl, is1, _, l27⟩
  have bag27 := bag26.below l27
  have AD1 := AD1'.below l27
  have AD2 := AD2'.below l27
  have r15 := row_below r15' l27
  have r17 := row_below r17' l27
  have r19 := row_below roww26 l27
  have M1 : Hid (I32s w27 ra1 (remL F T (tot F))) := M1'.out.below l27
  have M2 : Hid (I32s w27 ra2 (remL T F (tot T))) := M2'.out.below l27
  clear k1 bag26 AD1' AD2' r15' r17' roww26 l27 Hw26 s0 s1 sl M1' M2'
  have s0 : w27.cell? ⟨w21.heap.size, 0, none⟩ = some (.slice za1 S1.G zc1) := r15.cell (i := 0) (by omega)
  have s1 : w27.cell? ⟨w21.heap.size, 1, none⟩ = some (.int .i64 (tot S1 : Int)) := r15.cell (i := 1) (by omega)
  have k1 := groupprefixes_calls (gc := zc1) (tot S1 : Int) AD1 gS1
  go_wp2_with fail
  refine k1.mono ?_
  rintro e w28 ⟨pa1, pc1, rfl, ip1, _, l28⟩
  have bag28 := bag27.below l28
  have AD2' := AD2.below l28
  have i1 := SI1.out _ _ _ (is1.below l28) ip1
  have r15' := row_below r15 l28
  have r17' := row_below r17 l28
  have r19' := row_below r19 l28
  have M1' : Hid (I32s w28 ra1 (remL F T (tot F))) := M1.out.below l28
  have M2' : Hid (I32s w28 ra2 (remL T F (tot T))) := M2.out.below l28
  clear k1 bag27 AD1 AD2 r15 r17 r19 l28 s0 s1 is1 ip1 SI1 M1 M2
  have s0 : w28.cell? ⟨w23.heap.size, 0, none⟩ = some (.slice za2 S2.G zc2) := r17'.cell (i := 0) (by omega)
  have s1 : w28.cell? ⟨w23.heap.size, 1, none⟩ = some (.int .i64 (tot S2 : Int)) := r17'.cell (i := 1) (by omega)
  have k1 := groupsizes_calls (gc := zc2) (tot S2 : Int) AD2' gS2
  go_wp2_with fail
  refine k1.mono ?_
  rintro e w29 ⟨sa2, sc2, rfl, is2, _, l29⟩
  have bag29 := bag28.below l29
  have AD2 := AD2'.below l29
  have i1' := i1.below l29
  have r15 := row_below r15' l29
  have r17 := row_below r17' l29
  have r19 := row_below r19' l29
  have M1 : Hid (I32s w29 ra1 (remL F T (tot F))) := M1'.out.below l29
  have M2 : Hid (I32s w29 ra2 (remL T F (tot T))) := M2'.out.below l29
  clear k1 bag28 AD2' r15' r17' r19' l29 s0 s1 i1 M1' M2'
  have s0 : w29.cell? ⟨w23.heap.size, 0, none⟩ = some (.slice za2 S2.G zc2) := r17.cell (i := 0) (by omega)
  have s1 : w29.cell? ⟨w23.heap.size, 1, none⟩ = some (.int .i64 (tot S2 : Int)) := r17.cell (i := 1) (by omega)
  have k1 := groupprefixes_calls (gc := zc2) (tot S2 : Int) AD2 gS2
  go_wp2_with fail
  refine k1.mono ?_
  rintro e w30 ⟨pa2, pc2, rfl, ip2, _, l30⟩
  have bag30 := bag29.below l30
  have fin30 : Fin w w30 A1 A2 A3 A4 sa1 pa1 sa2 pa2 ra1 ra2 za1 za2 za0 F T S1 S2 w21.heap.size w23.heap.size w25.heap.size zc1 zc2 zc0 := ⟨bag30.cl, bag30.hb, i1'.below l30, SI2.out _ _ _ (is2.below l30) ip2, M1.out.below l30, M2.out.below l30, row_below r15 l30, row_below r17 l30, row_below r19 l30⟩
  clear k1 bag29 bag30 AD2 r15 r17 r19 l30 s0 s1 is2 ip2 SI2 M1 M2 i1'
  have k1 := valid_good_calls (c1 := sc1) (c2 := pc1) fin30.i1 O1.v O1.s
  go_wp2_with fail
  refine k1.mono ?_
  rintro e w31 ⟨rfl, l31⟩
  have fin31 := fin30.below l31.below
  clear k1 fin30 l31
  have k1 := valid_good_calls (c1 := sc2) (c2 := pc2) fin31.i2 O2.v O2.s
  go_wp2_with fail
  refine k1.mono ?_
  rintro e w32 ⟨rfl, l32⟩
  have fin32 := fin31.below l32.below
  clear k1 fin31 l32
  have k1 := count_calls (c1 := sc1) (c2 := pc1) fin32.i1 O1.v O1.s O1.t
  go_wp2_with fail
  refine k1.mono ?_
  rintro e w33 ⟨rfl, l33⟩
  have fin33 := fin32.below l33.below
  clear k1 fin32 l33
  have k1 := count_calls (c1 := sc2) (c2 := pc2) fin33.i2 O2.v O2.s O2.t
  go_wp2_with fail
  refine k1.mono ?_
  rintro e w34 ⟨rfl, l34⟩
  have fin34 := fin33.below l34.below
  clear k1 fin33 l34
  have s0 : w34.cell? ⟨w21.heap.size, 0, none⟩ = some (.slice za1 S1.G zc1) := fin34.r15.cell (i := 0) (by omega)
  have s1 : w34.cell? ⟨w21.heap.size, 1, none⟩ = some (.int .i64 (tot S1 : Int)) := fin34.r15.cell (i := 1) (by omega)
  have k1 := len_calls (w := w34) (.slice za1 S1.G zc1) (tot S1 : Int)
  go_wp2_with fail
  refine k1.mono ?_
  rintro e w35 ⟨rfl, l35⟩
  have fin35 := fin34.below l35
  clear k1 fin34 l35 s0 s1
  have s0 : w35.cell? ⟨w23.heap.size, 0, none⟩ = some (.slice za2 S2.G zc2) := fin35.r17.cell (i := 0) (by omega)
  have s1 : w35.cell? ⟨w23.heap.size, 1, none⟩ = some (.int .i64 (tot S2 : Int)) := fin35.r17.cell (i := 1) (by omega)
  have k1 := len_calls (w := w35) (.slice za2 S2.G zc2) (tot S2 : Int)
  go_wp2_with fail
  refine k1.mono ?_
  rintro e w36 ⟨rfl, l36⟩
  have fin36 := fin35.below l36
  clear k1 fin35 l36 s0 s1
  have hb1 : (tot F : Int) - (tot S2 : Int) + (tot S1 : Int) = (tot T : Int) := by have := HBAL.out; omega
  have hb2 : (tot T : Int) - (tot S1 : Int) + (tot S2 : Int) = (tot F : Int) := by have := HBAL.out; omega
  have k1 := sorted_calls (c1 := C1) (c2 := C2) fin36.cl.iF vF sF fin36.cl.tF
  go_wp2_with fail
  refine k1.mono ?_
  rintro e w37 ⟨xa, xc, rfl, hs1, l37⟩
  have fin37 := fin36.below l37
  clear k1 fin36 l37 hb1 hb2
  have k1 := sorted_calls (c1 := sc2) (c2 := pc2) fin37.i2 O2.v O2.s O2.t
  go_wp2_with fail
  refine k1.mono ?_
  rintro e w38 ⟨ya, yc, rfl, hs2, l38⟩
  have fin38 := fin37.below l38
  have hs1' := hs1.below l38
  clear k1 fin37 l38 hs1
  have k1 := picked_calls (sc := xc) (rc := rc1) (pc := yc) hs1' fin38.m1 hs2 vF tF t2 O2.pk
  go_wp2_with fail
  refine k1.mono ?_
  rintro e w39 ⟨rfl, l39⟩
  have fin39 := fin38.below l39.below
  clear k1 fin38 l39 hs1' hs2
  have k1 := sorted_calls (c1 := C3) (c2 := C4) fin39.cl.iT vT sT fin39.cl.tT
  go_wp2_with fail
  refine k1.mono ?_
  rintro e w40 ⟨ua, uc, rfl, hs1, l40⟩
  have fin40 := fin39.below l40
  clear k1 fin39 l40
  have k1 := sorted_calls (c1 := sc1) (c2 := pc1) fin40.i1 O1.v O1.s O1.t
  go_wp2_with fail
  refine k1.mono ?_
  rintro e w41 ⟨va, vc, rfl, hs2, l41⟩
  have fin41 := fin40.below l41
  have hs1' := hs1.below l41
  clear k1 fin40 l41 hs1
  have k1 := picked_calls (sc := uc) (rc := rc2) (pc := vc) hs1' fin41.m2 hs2 vT tT t1 O1.pk
  go_wp2_with fail
  refine k1.mono ?_
  rintro e w42 ⟨rfl, l42⟩
  have fin42 := fin41.below l42.below
  clear k1 fin41 l42 hs1' hs2
  have s0 : w42.cell? ⟨w25.heap.size, 0, none⟩ = some (.slice za0 0 zc0) := fin42.r19.cell (i := 0) (by omega)
  have s1 : w42.cell? ⟨w25.heap.size, 1, none⟩ = some (.int .i64 0) := fin42.r19.cell (i := 1) (by omega)
  have k1 := groupsizes_calls (w := w42) (ga := za0) (G := 0) (gc := zc0) (Z := fun _ => 0) (L := fun _ => 0) (X := fun _ _ => 0) 0 ⟨0, 0, fun g hg => absurd hg (Nat.not_lt_zero _)⟩ (by omega)
  go_wp2_with fail
  refine k1.mono ?_
  rintro e w43 ⟨ka, kc, rfl, _, _, l43⟩
  have fin43 := fin42.below l43
  clear k1 fin42 l43 s0 s1
  have s0 : w43.cell? ⟨w25.heap.size, 0, none⟩ = some (.slice za0 0 zc0) := fin43.r19.cell (i := 0) (by omega)
  have s1 : w43.cell? ⟨w25.heap.size, 1, none⟩ = some (.int .i64 0) := fin43.r19.cell (i := 1) (by omega)
  have k1 := len_calls (w := w43) (.slice za0 0 zc0) 0
  go_wp2_with fail
  refine k1.mono ?_
  rintro e w44 ⟨rfl, l44⟩
  have hend := fin43.hb.trans (l44.mono fin43.hb.size)
  clear k1 fin43
  go_wp2
  go_ret
  exact ⟨rfl, hend⟩
end Go.Proofs.Qxb6627355a
