import Derived.Test.Qxb6627355aDiffMem
import Derived.Deep.DeepCutAuto
import Derived.Deep.RegionWith
import Derived.Deep.LoopGhost
namespace Go.Proofs.Qxb6627355a
open Go.RowKit

theorem Try.info21 : (Try.prog.info? 21).map (fun i => (i.zero, i.size, i.bytes)) = some (some (.int .i32 0), 1, 4) := by kernel_rfl

theorem wp_at {P : Program} {c : Code} {Q : Exit → Act → World → Prop} {a : Act} {W : World} {Facts : World → Prop} (h : Facts W) (k : ∀ W0, Facts W0 → Code.wp P c Q a W0) : Code.wp P c Q a W := k W h

theorem below_of_drew {W0 w1 : World} (h : Below W0.drew.heap.size W0.drew w1) : Below W0.heap.size W0 w1 := ⟨h.os, h.tape, h.output, h.size, h.block⟩

/-- What stands ahead of the walks. -/
structure D0 (w W0 : World) (ga gb : Option Addr) (nF gc nT gd : Nat) (n1 n2 : Int) : Prop where
  below : Below w.heap.size w W0
  size : W0.heap.size = w.heap.size + 4
  f0 : W0.cell? ⟨w.heap.size, 0, none⟩ = some (.slice ga nF gc)
  f1 : W0.cell? ⟨w.heap.size, 1, none⟩ = some (.int .i64 n1)
  t0 : W0.cell? ⟨w.heap.size + 1, 0, none⟩ = some (.slice gb nT gd)
  t1 : W0.cell? ⟨w.heap.size + 1, 1, none⟩ = some (.int .i64 n2)
  res : ∃ f, W0.rowIs (w.heap.size + 1 + 1) 32 2 f
  row : W0.rowIs (w.heap.size + 1 + 1 + 1) 50 33 (fun _ => .slice none 0 0)

theorem d0_of {w : World} {ga gb : Option Addr} {nF gc nT gd : Nat} (n1 n2 : Int) (c : Array Value) (hc : c = Array.replicate 33 (.slice none 0 0)) :
    D0 w ((((w.alloc (.cells #[.slice ga nF gc, .int .i64 n1] 32)).alloc (.cells #[.slice gb nT gd, .int .i64 n2] 32)).alloc (.cells #[.slice none 0 0, .int .i64 0] 32)).alloc (.cells c 50)) ga gb nF gc nT gd n1 n2 := by
  have two_ok : ∀ (x y : Value) (i : Nat), i < #[x, y].size → #[x, y][i]? = some (two x y i) := by
    intro x y i hi
    match i, hi with
    | 0, _ => rfl
    | 1, _ => rfl
  have r1 := World.rowIs_alloc w #[.slice ga nF gc, .int .i64 n1] 32 _ (two_ok _ _)
  have r2 := World.rowIs_alloc (w.alloc (.cells #[.slice ga nF gc, .int .i64 n1] 32)) #[.slice gb nT gd, .int .i64 n2] 32 _ (two_ok _ _)
  have r3 := World.rowIs_alloc ((w.alloc (.cells #[.slice ga nF gc, .int .i64 n1] 32)).alloc (.cells #[.slice gb nT gd, .int .i64 n2] 32)) #[.slice none 0 0, .int .i64 0] 32 _ (two_ok _ _)
  have r4 := World.rowIs_alloc (((w.alloc (.cells #[.slice ga nF gc, .int .i64 n1] 32)).alloc (.cells #[.slice gb nT gd, .int .i64 n2] 32)).alloc (.cells #[.slice none 0 0, .int .i64 0] 32)) c 50 (fun _ => .slice none 0 0) (by
    intro i hi
    subst hc
    simp at hi
    simp [hi])
  have hs : c.size = 33 := by subst hc; simp
  simp only [World.size_alloc] at r2 r3 r4
  rw [hs] at r4
  have q1 := ((r1.alloc (.cells #[.slice gb nT gd, .int .i64 n2] 32)).alloc (.cells #[.slice none 0 0, .int .i64 0] 32)).alloc (.cells c 50)
  have q2 := (r2.alloc (.cells #[.slice none 0 0, .int .i64 0] 32)).alloc (.cells c 50)
  refine ⟨((((Below.refl _ _).alloc (Nat.le_refl _) _).alloc (by simp) _).alloc (by simp; omega) _).alloc (by simp; omega) _, by simp only [World.size_alloc], q1.cell (i := 0) (by show 0 < 2; omega), q1.cell (i := 1) (by show 1 < 2; omega), q2.cell (i := 0) (by show 0 < 2; omega), q2.cell (i := 1) (by show 1 < 2; omega), ⟨_, r3.alloc _⟩, r4⟩

/-- What stands behind the walks' making. -/
def D1 (w wc : World) (pF qF pT qT : Nat) (ga gb : Option Addr) (gc gd : Nat) (F T : St) : Prop :=
  Geo w.heap.size wc.heap.size pF qF pT qT ∧ DAt w wc.heap.size pF qF pT qT ga gb gc gd F T wc (fun _ => 0) (fun _ => 0) [] (.slice none 0 0) (fun _ => .slice none 0 0) (fun _ => [])

theorem d1_of {w W0 w1 w2 : World} {ga gb : Option Addr} {gc gd : Nat} {F T : St} {n1 n2 : Int} {pF qF pT qT : Nat} (h : D0 w W0 ga gb F.G gc T.G gd n1 n2) (a1 : W0.heap.size ≤ pF) (a2 : W0.heap.size ≤ qF) (a3 : WalkIn w1 pF qF ga F.G gc F.s (fun _ => 0)) (a4 : Below W0.heap.size W0 w1)
    (b1 : w1.heap.size ≤ pT) (b2 : w1.heap.size ≤ qT) (b3 : WalkIn w2 pT qT gb T.G gd T.s (fun _ => 0)) (b4 : Below w1.heap.size w1 w2) : D1 w w2 pF qF pT qT ga gb gc gd F T := by
  have hs := h.size
  have p1 := cell_lt a3.fst
  have p2 := a3.row.lt
  have p3 := cell_lt b3.fst
  have p4 := b3.row.lt
  have s1 := a4.size
  have s2 := b4.size
  simp only at p1 p3
  have hg : w1.grownBy w2 none := ⟨b4.os, b4.tape, b4.output, b4.size, fun i hi _ => b4.block i hi⟩
  obtain ⟨f, hf⟩ := h.res
  refine ⟨⟨⟨by omega, by omega⟩, ⟨by omega, by omega⟩, ⟨by omega, by omega⟩, ⟨by omega, by omega⟩, by omega, by omega, by omega⟩, ?_⟩
  have hb : Below W0.heap.size W0 w2 := a4.trans (b4.mono s1)
  refine ⟨h.below.trans (hb.mono h.below.size), Nat.le_refl _, ⟨f, hf.of_block (hb.block _ hf.lt)⟩, h.row.of_block (hb.block _ h.row.lt), a3.kept hg (by simp) (by simp), b3, World.ownsRow_nil _ _ _ _, fun _ _ => World.ownsRow_nil _ _ _ _, (fun s t g _ _ _ e => by cases e), (fun s z hz => by cases hz)⟩

def DiffPost (F T : St) (w : World) (e : Ending) (w' : World) : Prop :=
  ∃ (ra : Option Addr) (rc : Nat) (ga : Option Addr) (gc : Nat) (LS : Nat → List Int), e = .returned (.tuple #[.slice ra (remL F T (tot F)).length rc, .agg #[.slice ga (kk (fun s => (LS s).length) 33) gc, .int .i64 (sumTo (fun i => (LS i).length / i) 33 : Int)]]) ∧
    (∀ h, h < T.G → LS (T.s h) = addL T F h (T.m h)) ∧ (∀ s, (∀ h, h < T.G → T.s h ≠ s) → LS s = []) ∧ I32s w' ra (remL F T (tot F)) ∧
    Grs w' ga (kk (fun s => (LS s).length) 33) (fun k => (nth (fun s => (LS s).length) k : Int)) (fun k => (LS (nth (fun s => (LS s).length) k)).length) (fun k j => (LS (nth (fun s => (LS s).length) k))[j]?.getD 0) ∧ Below w.heap.size w w'

theorem bts_news {w : World} {b o s : Nat} {X : Nat → Int} (h : Bts w (some ⟨b, o, none⟩) s X) : ∀ j u, ((ls s X).map (Value.int .u8))[j]? = some u → w.cell? ((⟨b, o, none⟩ : Addr).add j) = some u := by
  obtain ⟨b', o', h⟩ := h
  intro j u hj
  have hjs : j < s := by
    rcases Nat.lt_or_ge j s with hl | hl
    · exact hl
    · rw [List.getElem?_eq_none (by simp [ls_length]; exact hl)] at hj; cases hj
  rw [List.getElem?_map, ls_get hjs] at hj
  cases hj
  obtain ⟨e, h1, _⟩ := h j hjs
  cases e
  rw [← h1]
  exact congrArg w.cell? (by unfold Addr.add; split <;> simp_all)
theorem bts_mem {w : World} {a : Option Addr} {s : Nat} {X : Nat → Int} (h : Bts w a s X) : ∀ z, z ∈ ls s X → 0 ≤ z ∧ z ≤ 255 := by
  intro z hz
  simp only [ls, List.mem_map, List.mem_range] at hz
  obtain ⟨i, hi, rfl⟩ := hz
  exact h.bounds i hi

theorem diff_end {w wr w3 : World} {N0 pF qF pT qT : Nat} {ga gb : Option Addr} {gc gd : Nat} {F T : St} {JF JT : Nat → Nat} {R : List Nat} {ra : Option Addr} {rl rc : Nat} {V : Nat → Value} {LS : Nat → List Int} {A : Nat → Option Addr} {C : Nat → Nat} {Gr : World → Prop} (G : Geo w.heap.size N0 pF qF pT qT) (h : DAt w N0 pF qF pT qT ga gb gc gd F T wr JF JT R (.slice ra rl rc) V LS)
    (hV : ∀ i, i < 33 → V i = .slice (A i) (LS i).length (C i)) (hb : Below wr.heap.size wr w3) (hG : ∀ wz : World, (∀ b, wr.heap.size ≤ b → wz.heap[b]? = w3.heap[b]?) → (∀ i, i < 33 → Bts wz (A i) (LS i).length (fun j => (LS i)[j]?.getD 0)) → Gr wz) (x y : Value) :
    I32s ((w3.setCell ⟨w.heap.size + 1 + 1, 0, none⟩ x).setCell ⟨w.heap.size + 1 + 1, 1, none⟩ y) ra R ∧ Gr ((w3.setCell ⟨w.heap.size + 1 + 1, 0, none⟩ x).setCell ⟨w.heap.size + 1 + 1, 1, none⟩ y) ∧ Below w.heap.size w ((w3.setCell ⟨w.heap.size + 1 + 1, 0, none⟩ x).setCell ⟨w.heap.size + 1 + 1, 1, none⟩ y) := by
  have g1 := G.pf
  have hsz := h.size
  have hblk : ∀ b, b ≠ w.heap.size + 1 + 1 → ((w3.setCell ⟨w.heap.size + 1 + 1, 0, none⟩ x).setCell ⟨w.heap.size + 1 + 1, 1, none⟩ y).heap[b]? = w3.heap[b]? := fun b hb => by
    rw [Below.heap_setCell _ _ _ _ (by show b ≠ w.heap.size + 1 + 1; exact hb), Below.heap_setCell _ _ _ _ (by show b ≠ w.heap.size + 1 + 1; exact hb)]
  refine ⟨i32s_of (owns_kept h.rem (fun g hg => ?_)), hG _ (fun b hb => hblk b (by omega)) (fun i hi => ?_), ((h.below.trans (hb.mono h.below.size)).setCell (by show w.heap.size ≤ w.heap.size + 1 + 1; omega) _).setCell (by show w.heap.size ≤ w.heap.size + 1 + 1; omega) _⟩
  · obtain ⟨k1, k2, _⟩ := owns_block h.rem hg
    rw [hblk g (by omega), hb.block g k2]
  · have ho := h.own i hi
    rw [hV i hi] at ho
    refine bts_of (owns_kept ho (fun g hg => ?_)) (h.byt i)
    obtain ⟨k1, k2, _⟩ := owns_block ho hg
    rw [hblk g (by omega), hb.block g k2]

theorem sum0 (n : Nat) : sumTo (fun _ => 0) n = 0 := by
  induction n with
  | zero => rfl
  | succ n ih => simp [sumTo, ih]

/-- One round of the merge, its state. -/
def DRel (w : World) (N0 pF qF pT qT : Nat) (ga gb : Option Addr) (gc gd : Nat) (F T : St) (rbF roF rbT roT : Nat → Nat) (k : Nat) (v x y z : Value) (wr : World) : Prop :=
  ∃ (JF JT JF' JT' : Nat → Nat) (i : Nat) (R : List Nat) (V : Nat → Value) (LS : Nat → List Int), Inv F T JF JT i R LS ∧ Cur F rbF roF JF x JF' ∧ Cur T rbT roT JT y JT' ∧ z = .int .i32 (i : Int) ∧
    DAt w N0 pF qF pT qT ga gb gc gd F T wr JF' JT' R v V LS ∧ k + sumTo JF F.G + sumTo JT T.G = tot F + tot T

set_option maxHeartbeats 8000000 in
theorem diff_calls {w : World} {ga gb : Option Addr} {gc gd : Nat} {F T : St} (n1 n2 : Int) (hF : Grs w ga F.G (fun g => (F.s g : Int)) (fun g => F.m g * F.s g) F.X) (hT : Grs w gb T.G (fun g => (T.s g : Int)) (fun g => T.m g * T.s g) T.X)
    (vF : Valid F) (vT : Valid T) (sF : Small F) (sT : Small T) (tF : tot F ≤ 1048576) :
    Calls Try.prog 12 #[.agg #[.slice ga F.G gc, .int .i64 n1], .agg #[.slice gb T.G gd, .int .i64 n2]] w (DiffPost F T w) := by
  obtain ⟨gbF, goF, rbF, roF, capF, hgF⟩ := grat_of hF vF
  obtain ⟨gbT, goT, rbT, roT, capT, hgT⟩ := grat_of hT vT
  have hGF := sF.1
  have hGT := sT.1
  have hqn := fun (w : World) (a : Option Addr) (n c : Nat) => Lib.run_eql_slice_nil (P := Try.prog) w 38 5 a n c 0 0 Try.underlying38
  obtain ⟨j0, hj21, hj0, hj1, hj2⟩ := info_parts Try.info21
  obtain ⟨k0, hk5, hk0, hk1, hk2⟩ := info_parts Try.info5
  go_enter Try.func12, Try.ntmps12
  go_wp2
  refine wp_at (Facts := fun W0 => D0 w W0 ga gb F.G gc T.G gd n1 n2) ?facts ?rest
  case facts => exact d0_of _ _ _ rfl
  case rest =>
    intro W0 h0
    go_cut [7, 8] (fun x y wc => ∃ pF qF pT qT, x = .pointer (some ⟨pF, 0, none⟩) ∧ y = .pointer (some ⟨pT, 0, none⟩) ∧ D1 w wc pF qF pT qT ga gb gc gd F T)
    case first =>
      have c1 := h0.f0
      have c2 := h0.f1
      have c3 := h0.t0
      have c4 := h0.t1
      have hcF : Calls Try.prog 22 #[.agg #[.slice ga F.G gc, .int .i64 n1]] W0.drew (WalkPost ga F.G gc F.s W0.drew) := walk_calls ga F.G gc n1 F.s hGF
      have hcT : ∀ w1, Calls Try.prog 22 #[.agg #[.slice gb T.G gd, .int .i64 n2]] w1 (WalkPost gb T.G gd T.s w1) := fun w1 => walk_calls gb T.G gd n2 T.s hGT
      clear hF hT hgF hgT vF vT sF sT tF
      go_region_with (first | (go_at_call_of 22 ga; refine hcF.mono ?_; intro e w1 hp1; obtain ⟨pF, qF, rfl, a1, a2, a3, a4'⟩ := hp1; change W0.heap.size ≤ pF at a1; change W0.heap.size ≤ qF at a2; have a4 := below_of_drew a4'; clear a4'; have d3 := cell_keep' c3 a4; have d4 := cell_keep' c4 a4; clear hcF) | (go_at_call_of 22 gb; refine (hcT _).mono ?_; intro e w2 hp2; obtain ⟨pT, qT, rfl, b1, b2, b3, b4⟩ := hp2; clear hcT))
      all_goals go_wp2_with fail
      all_goals go_meet
      all_goals exact ⟨pF, qF, pT, qT, rfl, rfl, d1_of h0 a1 a2 a3 a4 b1 b2 b3 b4⟩
    case rest =>
      obtain ⟨pF, qF, pT, qT, rfl, rfl, hgeo, hd⟩ := hcut
      obtain ⟨N0, hN0⟩ : ∃ N0, N0 = wc.heap.size := ⟨_, rfl⟩
      rw [← hN0] at hgeo hd
      clear hN0 h0 hF hT W0
      have hnF := nextp_calls vF sF hgF hd.below hd.wF (fun _ _ => Nat.zero_le _)
      go_wp2_with fail
      refine hnF.mono ?_
      rintro e w1 ⟨x, JF', rfl, cF, g1, wF1⟩
      have hd1 := hd.nextF hgeo g1 wF1
      clear hnF hd g1 wF1
      have hnT := nextp_calls vT sT hgT hd1.below hd1.wT (fun _ _ => Nat.zero_le _)
      go_wp2_with fail
      refine hnT.mono ?_
      rintro e w2 ⟨y, JT', rfl, cT, g1, wT1⟩
      have hd2 := hd1.nextT hgeo g1 wT1
      clear hnT hd1 g1 wT1
      go_wp2_with fail
      go_loopg [4, 9, 10, 11] (tot F + tot T) (fun k v x y z wr => DRel w N0 pF qF pT qT ga gb gc gd F T rbF roF rbT roT k v x y z wr)
      case atStart => exact ⟨_, _, _, _, 0, _, _, _, Inv.start F T, cF, cT, rfl, hd2, by simp only [sum0]; omega⟩
      case round =>
        clear cF cT hd2
        obtain ⟨JF, JT, JF', JT', i, R, V, LS, hinv, cF, cT, rfl, hd, hk⟩ := hrel
        rcases cF with ⟨rfl, eF, rfl⟩ | ⟨g, bF, rfl, rfl⟩
        · rcases cT with ⟨rfl, eT, rfl⟩ | ⟨h, bT, rfl, rfl⟩
          · have hR : R = remL F T (tot F) := by
              rw [hinv.rr, hinv.ii]
              exact congrArg (remL F T) (sumTo_congr eF)
            have hla : ∀ h, h < T.G → LS (T.s h) = addL T F h (T.m h) := fun h hh => by rw [hinv.la h hh, eT h hh]
            have hln := hinv.ln
            have hl0 : (fun s => (LS s).length) 0 = 0 := by
              show (LS 0).length = 0
              rw [hln 0 (fun h hh e => by have := vT.lo h hh; omega)]; rfl
            have hsmall : ∀ i, i < 33 → (fun s => (LS s).length) i ≤ 1048576 := fun i _ => hinv.small sT.2 i
            obtain ⟨A, C, hVA, hrc, hrb⟩ := hd.rows
            have hset := set_calls (X := fun i j => (LS i)[j]?.getD 0) hrc hrb hl0 hsmall
            clear hl0 hsmall
            obtain ⟨ra, rl, rc, rfl, hrl⟩ := owns_form hd.rem
            subst hR
            have HRL : Hid (rl = (remL F T (tot F)).length) := hrl
            have HR : Hid _ := hd
            have HI : Hid ((∀ h, h < T.G → LS (T.s h) = addL T F h (T.m h)) ∧ (∀ s, (∀ h, h < T.G → T.s h ≠ s) → LS s = [])) := ⟨hla, hln⟩
            have HV : Hid (∀ i, i < 33 → V i = .slice (A i) (LS i).length (C i)) := hVA
            obtain ⟨f, hf⟩ := hd.res
            clear hd hrl hla hln hVA hrc hrb hinv hk eF eT
            go_wp2_with fail
            refine hset.mono ?_
            rintro e w3 ⟨za, zc, rfl, hgrs, hbel⟩
            have HG : Hid _ := hgrs
            clear hset hgrs
            have hf3 := hf.of_block (hbel.block _ hf.lt)
            have r0 := hf3.cell (i := 0) (by omega)
            have r1 := hf3.cell (i := 1) (by omega)
            have r2 := hf3.frozen 0
            have r3 := hf3.frozen 1
            have HB : Hid (Below wr.heap.size wr w3) := hbel
            have HF3 : Hid (w3.rowIs (w.heap.size + 1 + 1) 32 2 f) := hf3
            clear hbel hf hf3
            generalize hkk : kk (fun s => (LS s).length) 33 = KK at *
            generalize hnn : sumTo (fun i => (fun s => (LS s).length) i / i) 33 = NN at *
            have HKK : Hid (kk (fun s => (LS s).length) 33 = KK) := hkk
            have HNN : Hid (sumTo (fun i => (fun s => (LS s).length) i / i) 33 = NN) := hnn
            clear hkk hnn
            go_wp2_with fail
            obtain ⟨e1, e2, e3⟩ := diff_end hgeo HR.out HV.out HB.out HG.out (.slice za KK zc) (.int .i64 (NN : Int))
            have hback := (HF3.out.set 0 (.slice za KK zc)).set 1 (.int .i64 (NN : Int))
            have b0 := hback.cell (i := 0) (by omega)
            have b1 := hback.cell (i := 1) (by omega)
            simp only [if_true, if_neg (show ¬ (0 = 1) by decide)] at b0 b1
            exact bodyPost_ret (v := .tuple #[.slice ra rl rc, .agg #[.slice za KK zc, .int .i64 (NN : Int)]]) (by simp [results, Try.results12, go_sem, b0, b1]) rfl ⟨ra, rc, za, zc, LS, by rw [HRL.out, ← HKK.out, ← HNN.out], HI.out.1, HI.out.2, e1, by rw [HKK.out]; exact e2, e3⟩
          · rw [show pv T rbT roT h (JT h) = .slice (some ⟨rbT h, roT h + JT h * T.s h, none⟩) (T.s h) (T.s h) from rfl]
            have HP := none_ahead (p := el T h (JT h)) eF
            have hinv' := hinv.right vT bT HP
            have hsm := hinv.small sT.2 (T.s h)
            have hs1 := vT.lo h bT.1
            have hs32 := vT.hi h bT.1
            have hbt := (hgT.bts bT.1 bT.2.1).below hd.below
            have hlt1 := sumTo_lt hinv.jt bT.1 bT.2.1
            have hle1 := sumTo_le hinv.jf
            have HK : Hid (gk - 1 < gk ∧ gk - 1 + sumTo JF' F.G + sumTo (bump JT h) T.G = tot F + tot T) := by
              rw [sumTo_bump' bT.1]
              unfold tot at hk ⊢
              exact ⟨by omega, by omega⟩
            have HJ : Hid (∀ g, g < T.G → bump JT h g ≤ T.m g) := hinv'.jt
            have hs33 : T.s h < 33 := by omega
            have hfo := hd.own (T.s h) hs33
            have r1 := hd.row.cell hs33
            have r2 := hd.row.frozen (T.s h)
            have hrow := hd.row
            obtain ⟨va, vl, vc, hva, hvl⟩ := owns_form hfo
            rw [hva] at r1 hfo
            subst hvl
            have HINV : Hid _ := hinv'
            have HROW : Hid (wr.rowIs (w.heap.size + 1 + 1 + 1) 50 33 V) := hrow
            have HFO : Hid (wr.ownsRow N0 5 1 (.slice va (LS (T.s h)).length vc) (LS (T.s h)).length ((LS (T.s h)).map (.int .u8))) := hfo
            have HCL : Hid (((el T h (JT h)).map (Value.int .u8)).length = T.s h * 1) := by rw [List.length_map, el_length, Nat.mul_one]; trivial
            have HC1 : Hid (∀ j u, ((el T h (JT h)).map (Value.int .u8))[j]? = some u → wr.cell? ((⟨rbT h, roT h + JT h * T.s h, none⟩ : Addr).add j) = some u) := bts_news hbt
            have HC2 : Hid (∀ u ∈ (el T h (JT h)).map (Value.int .u8), u.oneCell' = true) := by intro u hu; rw [List.mem_map] at hu; obtain ⟨z, _, rfl⟩ := hu; rfl
            have HC3 : Hid ((LS (T.s h)).length + T.s h ≤ maxLen) := by unfold maxLen; show _ ≤ _; omega
            have HC4 : Hid (((LS (T.s h)).length + T.s h) * 1 ≤ 140737488355328) := by show _ ≤ _; omega
            have HBT : Hid _ := hbt
            have HD : Hid _ := hd
            have HVA : Hid _ := hva
            have HSM : Hid ((LS (T.s h)).length ≤ 1048576) := hsm
            have HSZ : Hid (N0 ≤ wr.heap.size) := hd.size
            clear hinv hinv' hbt hlt1 hle1 hfo hrow hk hd hva hsm HP
            have hsi : (T.s h : Int) < 33 := by omega
            go_wp2_with (first
              | (at_builtin; refine wpList_append_apart _ rfl _ _ 38 rfl N0 5 k0 (.int .u8 0) 1 1 Try.underlying38 hk5 hk0 hk1 hk2 rfl (by decide) (.slice va (LS (T.s h)).length vc) (LS (T.s h)).length ((LS (T.s h)).map (.int .u8)) rfl HFO.out ⟨rbT h, roT h + JT h * T.s h, none⟩ (T.s h) (T.s h) ((el T h (JT h)).map (.int .u8)) rfl HCL.out HC1.out HC2.out HC3.out HC4.out HSZ.out ?_))
            intro v' w2 hown' hgrow' hap
            obtain ⟨va2, vl2, vc2, rfl, hvl2⟩ := owns_form hown'
            subst hvl2
            have hd' := HD.out.add hgeo hs33 (l := el T h (JT h)) (by rw [HVA.out]; exact hgrow') (by rw [el_length]; exact hown') (by rw [HVA.out]; exact hap) (bts_mem HBT.out)
            have hrow2 := HROW.out.of_block (hgrow'.block _ HROW.out.lt (fun e => by have := (owns_block HFO.out e.symm).1; have := hgeo.pf; omega))
            have f1 := hrow2.cell hs33
            have f2 := hrow2.frozen (T.s h)
            have hn := nextp_calls vT sT hgT hd'.below hd'.wT HJ.out
            have HD' : Hid _ := hd'
            clear hown' hgrow' hap hrow2 HD HFO HBT HVA HROW hd' HSM HSZ
            go_wp2_with fail
            refine hn.mono ?_
            rintro e w3 ⟨y', J3, rfl, cT', g1, wT1⟩
            have hd3 := HD'.out.nextT hgeo g1 wT1
            clear hn HD' g1 wT1
            go_wp2_with fail
            go_roundg (gk - 1)
            case measure => exact HK.out.1
            case rel => exact ⟨_, _, _, _, i, _, _, _, HINV.out, Or.inl ⟨rfl, eF, rfl⟩, cT', rfl, hd3, HK.out.2⟩
        · rcases cT with ⟨rfl, eT, rfl⟩ | ⟨h, bT, rfl, rfl⟩
          · rw [show pv F rbF roF g (JF g) = .slice (some ⟨rbF g, roF g + JF g * F.s g, none⟩) (F.s g) (F.s g) from rfl]
            have HP := none_ahead (p := el F g (JF g)) eT
            have hinv' := hinv.left vF bF HP
            have hilt := hinv.lt_tot bF
            have hlt1 := sumTo_lt hinv.jf bF.1 bF.2.1
            have hle1 := sumTo_le hinv.jt
            have HK : Hid (gk - 1 < gk ∧ gk - 1 + sumTo (bump JF g) F.G + sumTo JT' T.G = tot F + tot T) := by
              rw [sumTo_bump' bF.1]
              unfold tot at hk ⊢
              exact ⟨by omega, by omega⟩
            have HJ : Hid (∀ h, h < F.G → bump JF g h ≤ F.m h) := hinv'.jf
            obtain ⟨ra, rl, rc, rfl, hrl⟩ := owns_form hd.rem
            subst hrl
            have hrl : R.length ≤ i := by rw [hinv.rr]; exact remL_length F T i
            have HINV : Hid _ := hinv'
            have HD : Hid _ := hd
            have HRL : Hid (R.length ≤ i) := hrl
            clear hinv hinv' hlt1 hle1 hk hd HP hrl
            have hi20 : i < 1048576 := by omega
            go_wp2_with (first
              | (at_builtin; refine wpList_append_apart _ rfl _ _ 34 rfl N0 21 j0 (.int .i32 0) 1 4 Try.underlying34 hj21 hj0 hj1 hj2 rfl (by decide) (.slice ra R.length rc) R.length (R.map fun (r : Nat) => .int .i32 (r : Int)) rfl ?c0 ⟨wr.heap.size, 0, none⟩ 1 1 [.int .i32 (i : Int)] rfl rfl ?c1 ?c2 ?c3 ?c4 ?c5 ?_))
            case c0 => exact HD.out.rem.alloc _
            case c1 => exact cell_one_new _ _ _
            case c2 => intro u hu; simp at hu; subst hu; rfl
            case c3 => have := HRL.out; unfold maxLen; omega
            case c4 => have := HRL.out; omega
            case c5 => have := HD.out.size; simp; omega
            intro v' w2 hown' hgrow' _
            have hd' := HD.out.rank hgeo ((Below.refl _ _).alloc (Nat.le_refl _) _) hgrow' hown'
            have hn := nextp_calls vF sF hgF hd'.below hd'.wF HJ.out
            have HD' : Hid _ := hd'
            clear hown' hgrow' HD hd' HRL
            go_wp2_with fail
            refine hn.mono ?_
            rintro e w3 ⟨x', J3, rfl, cF', g1, wF1⟩
            have hd3 := HD'.out.nextF hgeo g1 wF1
            clear hn HD' g1 wF1
            go_wp2_with fail
            go_roundg (gk - 1)
            case measure => exact HK.out.1
            case rel => exact ⟨_, _, _, _, i + 1, _, _, _, HINV.out, cF', Or.inl ⟨rfl, eT, rfl⟩, by go_num, hd3, HK.out.2⟩
          · rw [show pv F rbF roF g (JF g) = .slice (some ⟨rbF g, roF g + JF g * F.s g, none⟩) (F.s g) (F.s g) from rfl]
            rw [show pv T rbT roT h (JT h) = .slice (some ⟨rbT h, roT h + JT h * T.s h, none⟩) (T.s h) (T.s h) from rfl]
            have hcon := bcompare_calls (ca := F.s g) (cb := T.s h) ((hgF.bts bF.1 bF.2.1).below hd.below) ((hgT.bts bT.1 bT.2.1).below hd.below) (fun e => by cases e) (fun e => by cases e)
            have hcon2 : Calls Try.prog 24 #[.slice (some ⟨rbF g, roF g + JF g * F.s g, none⟩) (F.s g) (F.s g), .slice (some ⟨rbT h, roT h + JT h * T.s h, none⟩) (T.s h) (T.s h)] wr fun e w' => e = .returned (.int .i64 (cmp (el F g (JF g)) (el T h (JT h)))) ∧ w' = wr := hcon
            clear hcon
            rcases cmp_tri (el F g (JF g)) (el T h (JT h)) with hc | hc | hc
            · obtain ⟨r, hr⟩ : ∃ r, r = cmp (el F g (JF g)) (el T h (JT h)) := ⟨_, rfl⟩
              rw [← hr] at hcon2
              have hneg : r < 0 := by rw [hr]; exact hc
              have HP := before_all vT bT hc
              clear hr hc
              have hcon := hcon2
              clear hcon2
              have hinv' := hinv.left vF bF HP
              have hilt := hinv.lt_tot bF
              have hlt1 := sumTo_lt hinv.jf bF.1 bF.2.1
              have hle1 := sumTo_le hinv.jt
              have HK : Hid (gk - 1 < gk ∧ gk - 1 + sumTo (bump JF g) F.G + sumTo JT T.G = tot F + tot T) := by
                rw [sumTo_bump' bF.1]
                unfold tot at hk ⊢
                exact ⟨by omega, by omega⟩
              have HJ : Hid (∀ h, h < F.G → bump JF g h ≤ F.m h) := hinv'.jf
              obtain ⟨ra, rl, rc, rfl, hrl⟩ := owns_form hd.rem
              subst hrl
              have hrl : R.length ≤ i := by rw [hinv.rr]; exact remL_length F T i
              have HINV : Hid _ := hinv'
              have HD : Hid _ := hd
              have HRL : Hid (R.length ≤ i) := hrl
              clear hinv hinv' hlt1 hle1 hk hd HP hrl
              have hi20 : i < 1048576 := by omega
              go_wp2_with fail
              refine hcon.mono ?_
              rintro e w' ⟨rfl, hw'⟩
              replace hw' := hw'.symm
              subst hw'
              clear hcon
              go_wp2_with (first
                | (at_builtin; refine wpList_append_apart _ rfl _ _ 34 rfl N0 21 j0 (.int .i32 0) 1 4 Try.underlying34 hj21 hj0 hj1 hj2 rfl (by decide) (.slice ra R.length rc) R.length (R.map fun (r : Nat) => .int .i32 (r : Int)) rfl ?c0 ⟨wr.heap.size, 0, none⟩ 1 1 [.int .i32 (i : Int)] rfl rfl ?c1 ?c2 ?c3 ?c4 ?c5 ?_))
              case c0 => exact HD.out.rem.alloc _
              case c1 => exact cell_one_new _ _ _
              case c2 => intro u hu; simp at hu; subst hu; rfl
              case c3 => have := HRL.out; unfold maxLen; omega
              case c4 => have := HRL.out; omega
              case c5 => have := HD.out.size; simp; omega
              intro v' w2 hown' hgrow' _
              have hd' := HD.out.rank hgeo ((Below.refl _ _).alloc (Nat.le_refl _) _) hgrow' hown'
              have hn := nextp_calls vF sF hgF hd'.below hd'.wF HJ.out
              have HD' : Hid _ := hd'
              clear hown' hgrow' HD hd' HRL
              go_wp2_with fail
              refine hn.mono ?_
              rintro e w3 ⟨x', J3, rfl, cF', g1, wF1⟩
              have hd3 := HD'.out.nextF hgeo g1 wF1
              clear hn HD' g1 wF1
              go_wp2_with fail
              go_roundg (gk - 1)
              case measure => exact HK.out.1
              case rel => exact ⟨_, _, _, _, i + 1, _, _, _, HINV.out, cF', Or.inr ⟨h, bT, rfl, rfl⟩, by go_num, hd3, HK.out.2⟩
            · have hcz : cmp (el F g (JF g)) (el T h (JT h)) = 0 := by rw [hc, cmp_self]
              rw [hcz] at hcon2
              have hinv' := hinv.both vF vT bF bT hc
              have hilt := hinv.lt_tot bF
              have hlt1 := sumTo_lt hinv.jf bF.1 bF.2.1
              have hlt2 := sumTo_lt hinv.jt bT.1 bT.2.1
              have HK : Hid (gk - 2 < gk ∧ gk - 2 + sumTo (bump JF g) F.G + sumTo (bump JT h) T.G = tot F + tot T) := by
                rw [sumTo_bump' bF.1, sumTo_bump' bT.1]
                unfold tot at hk ⊢
                exact ⟨by omega, by omega⟩
              have HJF : Hid (∀ h, h < F.G → bump JF g h ≤ F.m h) := hinv'.jf
              have HJT : Hid (∀ g, g < T.G → bump JT h g ≤ T.m g) := hinv'.jt
              have HINV : Hid _ := hinv'
              have HD : Hid _ := hd
              have hcon := hcon2
              have hi20 : i < 1048576 := by omega
              clear hcon2 hinv hinv' hlt1 hlt2 hk hd hc hcz
              go_wp2_with fail
              refine hcon.mono ?_
              rintro e w' ⟨rfl, hw'⟩
              replace hw' := hw'.symm
              subst hw'
              clear hcon
              have hn := nextp_calls vF sF hgF HD.out.below HD.out.wF HJF.out
              go_wp2_with fail
              refine hn.mono ?_
              rintro e w3 ⟨x', J3, rfl, cF', g1, wF1⟩
              have HD3 : Hid _ := HD.out.nextF hgeo g1 wF1
              clear hn HD g1 wF1
              have hn := nextp_calls vT sT hgT HD3.out.below HD3.out.wT HJT.out
              go_wp2_with fail
              refine hn.mono ?_
              rintro e w4 ⟨y', J4, rfl, cT', g1, wT1⟩
              have hd4 := HD3.out.nextT hgeo g1 wT1
              clear hn HD3 g1 wT1
              go_wp2_with fail
              go_roundg (gk - 2)
              case measure => exact HK.out.1
              case rel => exact ⟨_, _, _, _, i + 1, _, _, _, HINV.out, cF', cT', by go_num, hd4, HK.out.2⟩
            · have hswap : cmp (el F g (JF g)) (el T h (JT h)) = - cmp (el T h (JT h)) (el F g (JF g)) := cmp_swap _ _
              obtain ⟨r, hr⟩ : ∃ r, r = cmp (el F g (JF g)) (el T h (JT h)) := ⟨_, rfl⟩
              rw [← hr] at hcon2
              have hneg : 0 < r := by rw [hr, hswap]; omega
              have hneg2 : ¬ r < 0 := by omega
              have HP := before_all vF bF hc
              clear hr hc hswap
              have hcon := hcon2
              clear hcon2
              have hinv' := hinv.right vT bT HP
              have hsm := hinv.small sT.2 (T.s h)
              have hs1 := vT.lo h bT.1
              have hs32 := vT.hi h bT.1
              have hbt := (hgT.bts bT.1 bT.2.1).below hd.below
              have hlt1 := sumTo_lt hinv.jt bT.1 bT.2.1
              have hle1 := sumTo_le hinv.jf
              have HK : Hid (gk - 1 < gk ∧ gk - 1 + sumTo JF F.G + sumTo (bump JT h) T.G = tot F + tot T) := by
                rw [sumTo_bump' bT.1]
                unfold tot at hk ⊢
                exact ⟨by omega, by omega⟩
              have HJ : Hid (∀ g, g < T.G → bump JT h g ≤ T.m g) := hinv'.jt
              have hs33 : T.s h < 33 := by omega
              have hfo := hd.own (T.s h) hs33
              have r1 := hd.row.cell hs33
              have r2 := hd.row.frozen (T.s h)
              have hrow := hd.row
              obtain ⟨va, vl, vc, hva, hvl⟩ := owns_form hfo
              rw [hva] at r1 hfo
              subst hvl
              have HINV : Hid _ := hinv'
              have HROW : Hid (wr.rowIs (w.heap.size + 1 + 1 + 1) 50 33 V) := hrow
              have HFO : Hid (wr.ownsRow N0 5 1 (.slice va (LS (T.s h)).length vc) (LS (T.s h)).length ((LS (T.s h)).map (.int .u8))) := hfo
              have HCL : Hid (((el T h (JT h)).map (Value.int .u8)).length = T.s h * 1) := by rw [List.length_map, el_length, Nat.mul_one]; trivial
              have HC1 : Hid (∀ j u, ((el T h (JT h)).map (Value.int .u8))[j]? = some u → wr.cell? ((⟨rbT h, roT h + JT h * T.s h, none⟩ : Addr).add j) = some u) := bts_news hbt
              have HC2 : Hid (∀ u ∈ (el T h (JT h)).map (Value.int .u8), u.oneCell' = true) := by intro u hu; rw [List.mem_map] at hu; obtain ⟨z, _, rfl⟩ := hu; rfl
              have HC3 : Hid ((LS (T.s h)).length + T.s h ≤ maxLen) := by unfold maxLen; show _ ≤ _; omega
              have HC4 : Hid (((LS (T.s h)).length + T.s h) * 1 ≤ 140737488355328) := by show _ ≤ _; omega
              have HBT : Hid _ := hbt
              have HD : Hid _ := hd
              have HVA : Hid _ := hva
              have HSM : Hid ((LS (T.s h)).length ≤ 1048576) := hsm
              have HSZ : Hid (N0 ≤ wr.heap.size) := hd.size
              clear hinv hinv' hbt hlt1 hle1 hfo hrow hk hd hva hsm HP
              have hsi : (T.s h : Int) < 33 := by omega
              go_wp2_with fail
              refine hcon.mono ?_
              rintro e w' ⟨rfl, hw'⟩
              replace hw' := hw'.symm
              subst hw'
              clear hcon
              go_wp2_with (first
                | (at_builtin; refine wpList_append_apart _ rfl _ _ 38 rfl N0 5 k0 (.int .u8 0) 1 1 Try.underlying38 hk5 hk0 hk1 hk2 rfl (by decide) (.slice va (LS (T.s h)).length vc) (LS (T.s h)).length ((LS (T.s h)).map (.int .u8)) rfl HFO.out ⟨rbT h, roT h + JT h * T.s h, none⟩ (T.s h) (T.s h) ((el T h (JT h)).map (.int .u8)) rfl HCL.out HC1.out HC2.out HC3.out HC4.out HSZ.out ?_))
              intro v' w2 hown' hgrow' hap
              obtain ⟨va2, vl2, vc2, rfl, hvl2⟩ := owns_form hown'
              subst hvl2
              have hd' := HD.out.add hgeo hs33 (l := el T h (JT h)) (by rw [HVA.out]; exact hgrow') (by rw [el_length]; exact hown') (by rw [HVA.out]; exact hap) (bts_mem HBT.out)
              have hrow2 := HROW.out.of_block (hgrow'.block _ HROW.out.lt (fun e => by have := (owns_block HFO.out e.symm).1; have := hgeo.pf; omega))
              have f1 := hrow2.cell hs33
              have f2 := hrow2.frozen (T.s h)
              have hn := nextp_calls vT sT hgT hd'.below hd'.wT HJ.out
              have HD' : Hid _ := hd'
              clear hown' hgrow' hap hrow2 HD HFO HBT HVA HROW hd' HSM HSZ
              go_wp2_with fail
              refine hn.mono ?_
              rintro e w3 ⟨y', J3, rfl, cT', g1, wT1⟩
              have hd3 := HD'.out.nextT hgeo g1 wT1
              clear hn HD' g1 wT1
              go_wp2_with fail
              go_roundg (gk - 1)
              case measure => exact HK.out.1
              case rel => exact ⟨_, _, _, _, i, _, _, _, HINV.out, Or.inr ⟨g, bF, rfl, rfl⟩, cT', rfl, hd3, HK.out.2⟩
end Go.Proofs.Qxb6627355a
