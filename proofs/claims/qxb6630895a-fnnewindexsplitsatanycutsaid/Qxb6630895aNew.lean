import Derived.Test.Qxb6630895aEachW
import Derived.Test.Qxb6630895aVisit
import Derived.BigRegion
import Derived.WalkLawsBesides
import Derived.Deep.DeepCutAuto
namespace Go.Proofs.Qxb6630895a
open Go.RowKit

theorem Try.info3 : (Try.prog.info? 3).map (fun i => (i.zero, i.size, i.bytes)) = some (some (.int .i64 0), 1, 8) := by kernel_rfl
theorem Try.info21 : (Try.prog.info? 21).map (fun i => (i.zero, i.size, i.bytes)) = some (some (.int .i32 0), 1, 4) := by kernel_rfl

/-- The table of starts while the sums are made: up to k they are. -/
def pre (D : Inp) (k : Nat) : Nat → Value := fun j => .int .i64 (if j ≤ k then (st D j : Int) else (cnt D ((j - 1 : Nat) : Int) D.N : Int))

structure Pre (B : Nat) (D : Inp) (fsv : Value) (n : Nat) (S bs : Nat) (w0 : World) (k : Nat) (w : World) : Prop where
  env : Env B D fsv n w
  lrow : ∃ h, w.rowIs (B + 1) 21 n h
  var : w.cell? ⟨S, 0, none⟩ = some (.slice (some ⟨bs, 0, none⟩) (n + 1) (n + 1))
  row : w.rowIs bs 3 (n + 1) (pre D k)
  below : Below B w0 w

theorem Pre.start {B : Nat} {D : Inp} {fsv : Value} {n S bs : Nat} {w0 w1 w : World} (h : Est B D fsv n (I1 S bs n) w1 D.N 0 0 w) (hb : Below B w0 w1) : Pre B D fsv n S bs w0 0 w := by
  obtain ⟨lf, hr, _⟩ := h.row
  refine ⟨h.env, ⟨_, hr⟩, h.inv.var, h.inv.row.congr (fun j hj => ?_), hb.trans h.below⟩
  unfold pre
  by_cases e : j = 0
  · subst e; simp [st]
  · rw [if_neg e, if_neg (by omega)]
    simp only [vis_start]

theorem Pre.step {B : Nat} {D : Inp} {fsv : Value} {n S bs k : Nat} {w0 w : World} (h : Pre B D fsv n S bs w0 k w) (hS : S ≠ bs) (hbs : B + 3 ≤ bs) :
    Pre B D fsv n S bs w0 (k + 1) (w.setCell ⟨bs, k + 1, none⟩ (.int .i64 ((cnt D (k : Int) D.N : Int) + (st D k : Int)))).drew := by
  obtain ⟨g, hr⟩ := h.lrow
  refine ⟨h.env.below ((Below.refl _ _).setCell hbs _).drew, ⟨g, (hr.setOther (by show B + 1 ≠ bs; omega) _).drew⟩, cell_set h.var hS, (((h.row.set (k + 1) _).congr (fun j hj => ?_))).drew, (h.below.setCell (by show B ≤ bs; omega) _).drew⟩
  unfold pre
  by_cases e : j = k + 1
  · subst e
    rw [if_pos rfl, if_pos (Nat.le_refl _)]
    simp only [st]
    congr 1
    omega
  · rw [if_neg e]
    by_cases hl : j ≤ k
    · rw [if_pos hl, if_pos (by omega)]
    · rw [if_neg hl, if_neg (by omega)]

theorem cell_new (w : World) (c : Array Value) (t : TypeId) (i : Nat) (v : Value) (h : c[i]? = some v) : (w.alloc (.cells c t)).cell? ⟨w.heap.size, i, none⟩ = some v := by
  rw [World.cell?_alloc_at c t _ _ rfl]; exact h
theorem cell_keep {w : World} {p : Addr} {v : Value} (h : w.cell? p = some v) (o : Obj) : (w.alloc o).cell? p = some v := by
  exact (((Below.refl w.heap.size w).alloc (Nat.le_refl _) o).cell (cell_lt h)).trans h

/-- Behind 'x := &Index{..}'. -/
structure Mid (B : Nat) (D : Inp) (fsv : Value) (n : Nat) (S bs X b bf : Nat) (w0 w : World) : Prop where
  env : Env B D fsv n w
  lrow : ∃ h, w.rowIs (B + 1) 21 n h
  var : w.cell? ⟨S, 0, none⟩ = some (.slice (some ⟨bs, 0, none⟩) (n + 1) (n + 1))
  row : w.rowIs bs 3 (n + 1) (fun k => .int .i64 (st D k : Int))
  below : Below B w0 w
  x : w.cell? ⟨X, 0, none⟩ = some (.pointer (some ⟨b, 0, none⟩))
  i0 : w.cell? ⟨b, 0, none⟩ = some (.slice (some ⟨bs, 0, none⟩) (n + 1) (n + 1))
  i1 : w.cell? ⟨b, 1, none⟩ = some (.slice (some ⟨bf, 0, none⟩) (st D n) (st D n))
  frow : w.rowIs bf 21 (st D n) (fun _ => .int .i32 0)
  lX : B + 5 ≤ X
  lb : B + 5 ≤ b
  lf : B + 5 ≤ bf
  Xf : X ≠ bf
  bf' : b ≠ bf

theorem Mid.of {B : Nat} {D : Inp} {fsv : Value} {n S bs X b bf : Nat} {w0 wr w : World} (h : Pre B D fsv n S bs w0 n wr) (hS : B + 4 < wr.heap.size) (eS : S = B + 4) (ebs : bs = B + 3) (hb : Below wr.heap.size wr w)
    (x : w.cell? ⟨X, 0, none⟩ = some (.pointer (some ⟨b, 0, none⟩)))
    (i0 : w.cell? ⟨b, 0, none⟩ = some (.slice (some ⟨bs, 0, none⟩) (n + 1) (n + 1))) (i1 : w.cell? ⟨b, 1, none⟩ = some (.slice (some ⟨bf, 0, none⟩) (st D n) (st D n)))
    (frow : w.rowIs bf 21 (st D n) (fun _ => .int .i32 0)) (lX : wr.heap.size ≤ X) (lb : wr.heap.size ≤ b) (lf : wr.heap.size ≤ bf) (Xf : X ≠ bf) (bf' : b ≠ bf) : Mid B D fsv n S bs X b bf w0 w := by
  obtain ⟨g, hr⟩ := h.lrow
  refine ⟨h.env.below (hb.mono (by omega)), ⟨g, hr.of_block (hb.block _ hr.lt)⟩, (hb.cell (cell_lt h.var)).trans h.var, (h.row.of_block (hb.block _ h.row.lt)).congr (fun j hj => ?_), h.below.trans (hb.mono (by omega)), x, i0, i1, frow, by omega, by omega, by omega, Xf, bf'⟩
  unfold pre
  rw [if_pos (by omega)]

/-- The two orders and the third of one statement. -/
theorem mid1 (wr : World) (x y : Value) (n : Nat) : ∃ w, w = (((wr.alloc (.cells (madeCells #[.int .i32 0] n) 21)).alloc (.cells #[x, y] 47)).alloc (.cells #[.pointer (some ⟨wr.heap.size + 1, 0, none⟩)] 25)).drew ∧ Below wr.heap.size wr w ∧
    w.cell? ⟨wr.heap.size + 1 + 1, 0, none⟩ = some (.pointer (some ⟨wr.heap.size + 1, 0, none⟩)) ∧ w.cell? ⟨wr.heap.size + 1, 0, none⟩ = some x ∧ w.cell? ⟨wr.heap.size + 1, 1, none⟩ = some y ∧ w.rowIs wr.heap.size 21 n (fun _ => .int .i32 0) := by
  refine ⟨_, rfl, ((((Below.refl _ _).alloc (Nat.le_refl _) _).alloc (by simp) _).alloc (by simp; omega) _).drew, ?_, ?_, ?_, ?_⟩
  · have h := cell_new ((wr.alloc (.cells (madeCells #[.int .i32 0] n) 21)).alloc (.cells #[x, y] 47)) #[.pointer (some ⟨wr.heap.size + 1, 0, none⟩)] 25 0 _ rfl
    simp only [World.size_alloc] at h
    exact h
  · have h := cell_new (wr.alloc (.cells (madeCells #[.int .i32 0] n) 21)) #[x, y] 47 0 _ rfl
    simp only [World.size_alloc] at h
    exact cell_keep h _
  · have h := cell_new (wr.alloc (.cells (madeCells #[.int .i32 0] n) 21)) #[x, y] 47 1 _ rfl
    simp only [World.size_alloc] at h
    exact cell_keep h _
  · exact (((World.rowIs_made wr _ _ _).alloc _).alloc _).drew
theorem mid2 (wr : World) (x y : Value) (n : Nat) : ∃ w, w = (((wr.alloc (.cells (madeCells #[.int .i32 0] n) 21)).alloc (.cells #[.pointer (some ⟨wr.heap.size + 1 + 1, 0, none⟩)] 25)).alloc (.cells #[x, y] 47)).drew ∧ Below wr.heap.size wr w ∧
    w.cell? ⟨wr.heap.size + 1, 0, none⟩ = some (.pointer (some ⟨wr.heap.size + 1 + 1, 0, none⟩)) ∧ w.cell? ⟨wr.heap.size + 1 + 1, 0, none⟩ = some x ∧ w.cell? ⟨wr.heap.size + 1 + 1, 1, none⟩ = some y ∧ w.rowIs wr.heap.size 21 n (fun _ => .int .i32 0) := by
  refine ⟨_, rfl, ((((Below.refl _ _).alloc (Nat.le_refl _) _).alloc (by simp) _).alloc (by simp; omega) _).drew, ?_, ?_, ?_, ?_⟩
  · have h := cell_new (wr.alloc (.cells (madeCells #[.int .i32 0] n) 21)) #[.pointer (some ⟨wr.heap.size + 1 + 1, 0, none⟩)] 25 0 _ rfl
    simp only [World.size_alloc] at h
    exact cell_keep h _
  · have h := cell_new ((wr.alloc (.cells (madeCells #[.int .i32 0] n) 21)).alloc (.cells #[.pointer (some ⟨wr.heap.size + 1 + 1, 0, none⟩)] 25)) #[x, y] 47 0 _ rfl
    simp only [World.size_alloc] at h
    exact h
  · have h := cell_new ((wr.alloc (.cells (madeCells #[.int .i32 0] n) 21)).alloc (.cells #[.pointer (some ⟨wr.heap.size + 1 + 1, 0, none⟩)] 25)) #[x, y] 47 1 _ rfl
    simp only [World.size_alloc] at h
    exact h
  · exact (((World.rowIs_made wr _ _ _).alloc _).alloc _).drew
theorem mid3 (wr : World) (x y : Value) (n : Nat) : ∃ w, w = (((wr.alloc (.cells #[.pointer (some ⟨wr.heap.size + 1 + 1, 0, none⟩)] 25)).alloc (.cells (madeCells #[.int .i32 0] n) 21)).alloc (.cells #[x, y] 47)).drew ∧ Below wr.heap.size wr w ∧
    w.cell? ⟨wr.heap.size, 0, none⟩ = some (.pointer (some ⟨wr.heap.size + 1 + 1, 0, none⟩)) ∧ w.cell? ⟨wr.heap.size + 1 + 1, 0, none⟩ = some x ∧ w.cell? ⟨wr.heap.size + 1 + 1, 1, none⟩ = some y ∧ w.rowIs (wr.heap.size + 1) 21 n (fun _ => .int .i32 0) := by
  refine ⟨_, rfl, ((((Below.refl _ _).alloc (Nat.le_refl _) _).alloc (by simp) _).alloc (by simp; omega) _).drew, ?_, ?_, ?_, ?_⟩
  · exact cell_keep (cell_keep (cell_new wr #[.pointer (some ⟨wr.heap.size + 1 + 1, 0, none⟩)] 25 0 _ rfl) _) _
  · have h := cell_new ((wr.alloc (.cells #[.pointer (some ⟨wr.heap.size + 1 + 1, 0, none⟩)] 25)).alloc (.cells (madeCells #[.int .i32 0] n) 21)) #[x, y] 47 0 _ rfl
    simp only [World.size_alloc] at h
    exact h
  · have h := cell_new ((wr.alloc (.cells #[.pointer (some ⟨wr.heap.size + 1 + 1, 0, none⟩)] 25)).alloc (.cells (madeCells #[.int .i32 0] n) 21)) #[x, y] 47 1 _ rfl
    simp only [World.size_alloc] at h
    exact h
  · have h := World.rowIs_made (wr.alloc (.cells #[.pointer (some ⟨wr.heap.size + 1 + 1, 0, none⟩)] 25)) (.int .i32 0) n 21
    simp only [World.size_alloc] at h
    exact (h.alloc _).drew

theorem Mid.kept {B : Nat} {D : Inp} {fsv : Value} {n S bs X b bf : Nat} {w0 wc w : World} (h : Mid B D fsv n S bs X b bf w0 wc) (hB : B + 3 ≤ wc.heap.size) (hb : Below wc.heap.size wc w) : Mid B D fsv n S bs X b bf w0 w := by
  obtain ⟨g, hr⟩ := h.lrow
  exact ⟨h.env.below (hb.mono hB), ⟨g, hr.of_block (hb.block _ hr.lt)⟩, (hb.cell (cell_lt h.var)).trans h.var, h.row.of_block (hb.block _ h.row.lt), h.below.trans (hb.mono (by omega)), (hb.cell (cell_lt h.x)).trans h.x,
    (hb.cell (cell_lt h.i0)).trans h.i0, (hb.cell (cell_lt h.i1)).trans h.i1, h.frow.of_block (hb.block _ h.frow.lt), h.lX, h.lb, h.lf, h.Xf, h.bf'⟩

theorem I2.start {B : Nat} {D : Inp} {fsv : Value} {n S bs X b bf Y g cap : Nat} {w0 w : World} {a : Option Addr} {l c : Nat} (h : Mid B D fsv n S bs X b bf w0 w) (hY : w.cell? ⟨Y, 0, none⟩ = some (.slice a l c))
    (hnx : 0 < n → (a = some ⟨g, 0, none⟩ ∧ l = n ∧ c = cap) ∧ n ≤ cap ∧ ∃ h : Nat → Value, w.rowIs g 3 cap h ∧ ∀ j, j < n → h j = .int .i64 (st D j : Int)) : I2 D X Y b bs bf g cap n (fun _ => 0) w := by
  refine ⟨h.x, h.i0, h.i1, h.row, ⟨fun _ => 0, h.frow, fun c f _ _ _ hlt => absurd hlt (Nat.not_lt_zero _)⟩, fun hn => ?_⟩
  obtain ⟨⟨rfl, rfl, rfl⟩, h2, k, hr, hk⟩ := hnx hn
  exact ⟨hY, h2, k, hr, fun c hc => by rw [hk c hc]; simp⟩

/-- A slice that owns its row, opened. -/
theorem owns_open {w : World} {base n : Nat} {v : Value} {xs : List Value} (h : w.ownsRow base 3 1 v n xs) :
    ∃ (a : Option Addr) (l c g cap : Nat), v = .slice a l c ∧ (0 < n → (a = some ⟨g, 0, none⟩ ∧ l = n ∧ c = cap) ∧ base ≤ g ∧ g < w.heap.size ∧ n ≤ cap ∧ ∃ h : Nat → Value, w.rowIs g 3 cap h ∧ ∀ j, j < n → xs[j]? = some (h j)) := by
  rcases h with ⟨_, ⟨rfl, rfl⟩ | ⟨g, cap, cur, rfl, hb, hh, hc, hm, hs, ht⟩⟩
  · exact ⟨_, _, _, 0, 0, rfl, fun h => absurd h (Nat.lt_irrefl _)⟩
  · have hr : w.rowIs g 3 cap (fun i => cur[i]!) := ⟨cur, hh, by omega, fun i hi => by
      have : i < cur.size := by omega
      simp [this]⟩
    refine ⟨_, _, _, g, cap, rfl, fun hn => ⟨⟨rfl, rfl, rfl⟩, hb, hr.lt, hc, _, hr, fun j hj => ?_⟩⟩
    rw [← ht]
    have : j < cur.size := by omega
    simp [hj, this]

/-- What 'NewIndex' hands back. -/
structure Idx (D : Inp) (n b bs bf : Nat) (fl : Nat → Int) (w : World) : Prop where
  sc : w.cell? ⟨b, 0, none⟩ = some (.slice (some ⟨bs, 0, none⟩) (n + 1) (n + 1))
  fc : w.cell? ⟨b, 1, none⟩ = some (.slice (some ⟨bf, 0, none⟩) (st D n) (st D n))
  srow : w.rowIs bs 3 (n + 1) (fun k => .int .i64 (st D k : Int))
  frow : w.rowIs bf 21 (st D n) (fun x => .int .i32 (fl x))
  spec : ∀ c f : Nat, c < n → f < D.N → hasF D f (c : Int) = true → fl (st D c + cnt D (c : Int) f) = (f : Int)

def NewPost (D : Inp) (n : Nat) (w : World) (e : Ending) (w' : World) : Prop :=
  ∃ b bs bf fl, e = .returned (.pointer (some ⟨b, 0, none⟩)) ∧ Idx D n b bs bf fl w' ∧ Below w.heap.size w w'

theorem Idx.of {B : Nat} {D : Inp} {fsv : Value} {n X Y b bs bf g cap : Nat} {w0 w : World} (h : Est B D fsv n (I2 D X Y b bs bf g cap n) w0 D.N 0 0 w) : ∃ fl, Idx D n b bs bf fl w := by
  obtain ⟨fl, hr, hf⟩ := h.inv.frow
  exact ⟨fl, h.inv.sc, h.inv.fc, h.inv.srow, hr, fun c f hc hfN hh => hf c f hc hfN hh (by simp only [vis_start]; exact cnt_lt hh hfN)⟩

set_option maxHeartbeats 1000000 in
theorem new_calls (D : Inp) (fa : Option Addr) (fcap : Nat) (n : Nat) (w : World) (hn : n ≤ 65536) (hN : D.N ≤ 1048576) (ok : D.Ok) (hdom : DomTo D n D.N) (hfl : FlowsOk w.heap.size w (.slice fa D.N fcap) D) :
    Calls Try.prog 8 #[.slice fa D.N fcap, .int .i64 (n : Int)] w (NewPost D n w) := by
  have hmk1 := run_make_row' (P := Try.prog) 31 21 (.int .i32 0) 4 Try.underlying31 Try.info21 rfl .i64 .i64 n (by omega) (by omega)
  have hmk2 := run_make_row' (P := Try.prog) 29 3 (.int .i64 0) 8 Try.underlying29 Try.info3 rfl .i64 .i64 (n + 1) (by omega) (by omega)
  rw [show ((n + 1 : Nat) : Int) = (n : Int) + 1 from by omega] at hmk2
  obtain ⟨B, hB⟩ : ∃ B, B = w.heap.size := ⟨_, rfl⟩
  obtain ⟨w1, hw1⟩ : ∃ w1, w1 = (((((w.alloc (Obj.cells #[.slice fa D.N fcap] 27)).alloc (Obj.cells (madeCells #[Value.int IntKind.i32 0] n) 21)).alloc (Obj.cells #[Value.slice (some { block := w.heap.size + 1, off := 0 }) n n] 31)).alloc (Obj.cells (madeCells #[Value.int IntKind.i64 0] (n + 1)) 3)).alloc (Obj.cells #[Value.slice (some { block := w.heap.size + 1 + 1 + 1, off := 0 }) (n + 1) (n + 1)] 29)) := ⟨_, rfl⟩
  have bel1 : Below w.heap.size w w1 := by
    subst hw1
    exact (((((Below.refl _ _).alloc (Nat.le_refl _) _).alloc (by simp) _).alloc (by simp; omega) _).alloc (by simp; omega) _).alloc (by simp; omega) _
  have env1 : Env w.heap.size D (.slice fa D.N fcap) n w1 := by
    refine ⟨?_, ?_, hfl.below bel1⟩
    · subst hw1
      exact cell_keep (cell_keep (cell_keep (cell_keep (cell_new w _ _ 0 _ rfl) _) _) _) _
    · subst hw1
      have h := cell_new ((w.alloc (Obj.cells #[.slice fa D.N fcap] 27)).alloc (Obj.cells (madeCells #[Value.int IntKind.i32 0] n) 21)) #[Value.slice (some { block := w.heap.size + 1, off := 0 }) n n] 31 0 _ rfl
      simp only [World.size_alloc] at h
      exact cell_keep (cell_keep h _) _
  have lrow1 : w1.rowIs (w.heap.size + 1) 21 n (fun _ => .int .i32 0) := by
    subst hw1
    have h := World.rowIs_made (w.alloc (Obj.cells #[.slice fa D.N fcap] 27)) (.int .i32 0) n 21
    simp only [World.size_alloc] at h
    exact ((h.alloc _).alloc _).alloc _
  have inv1 : I1 (w.heap.size + 4) (w.heap.size + 3) n (fun _ => 0) w1 := by
    subst hw1
    refine ⟨?_, ?_⟩
    · have h := cell_new ((((w.alloc (Obj.cells #[.slice fa D.N fcap] 27)).alloc (Obj.cells (madeCells #[Value.int IntKind.i32 0] n) 21)).alloc (Obj.cells #[Value.slice (some { block := w.heap.size + 1, off := 0 }) n n] 31)).alloc (Obj.cells (madeCells #[Value.int IntKind.i64 0] (n + 1)) 3)) #[Value.slice (some { block := w.heap.size + 1 + 1 + 1, off := 0 }) (n + 1) (n + 1)] 29 0 _ rfl
      simp only [World.size_alloc] at h
      exact h
    have h := World.rowIs_made (((w.alloc (Obj.cells #[.slice fa D.N fcap] 27)).alloc (Obj.cells (madeCells #[Value.int IntKind.i32 0] n) 21)).alloc (Obj.cells #[Value.slice (some { block := w.heap.size + 1, off := 0 }) n n] 31)) (.int .i64 0) (n + 1) 3
    simp only [World.size_alloc] at h
    exact (h.alloc _).congr (fun j _ => by simp)
  go_enter Try.func8, Try.ntmps8
  go_wp2_with fail
  rw [← hw1]
  refine (each17 w.heap.size D (.slice fa D.N fcap) n (I1 (w.heap.size + 4) (w.heap.size + 3) n) (w.heap.size + 4) w1 hn hN ok hdom env1 ⟨_, lrow1⟩ inv1 (I1.stab (by omega) (by omega)) (visit1 D w.heap.size _ _ n hn hN (by omega) (by omega))).mono ?_
  rintro e w2 ⟨rfl, hest⟩
  have hpre := Pre.start hest bel1
  clear hest inv1 lrow1 env1 bel1 hw1 hB
  clear w1
  go_wp2
  go_loopw [8] (fun x wr => ∃ k : Nat, k ≤ n ∧ x = .int .i64 k ∧ Pre w.heap.size D (.slice fa D.N fcap) n (w.heap.size + 4) (w.heap.size + 3) w k wr) (fun x _ => n - (intOf x).toNat)
  case atStart => exact ⟨0, Nat.zero_le _, rfl, hpre⟩
  case round =>
    clear hpre
    obtain ⟨k, hk, rfl, hpre⟩ := hrel
    have hvar : wr.cell? ⟨w.heap.size + 1 + 1 + 1 + 1, 0, none⟩ = some (.slice (some ⟨w.heap.size + 1 + 1 + 1, 0, none⟩) (n + 1) (n + 1)) := hpre.var
    by_cases hlt : k < n
    · have hstep : Hid _ := hpre.step (by omega) (by omega)
      have c1 : wr.cell? ⟨w.heap.size + 1 + 1 + 1, k + 1, none⟩ = some (.int .i64 (cnt D (k : Int) D.N : Int)) := by
        have h := hpre.row.cell (i := k + 1) (by omega)
        rw [show pre D k (k + 1) = .int .i64 (cnt D (k : Int) D.N : Int) from by unfold pre; rw [if_neg (by omega)]; simp] at h
        exact h
      have c0 : wr.cell? ⟨w.heap.size + 1 + 1 + 1, k, none⟩ = some (.int .i64 (st D k : Int)) := by
        have h := hpre.row.cell (i := k) (by omega)
        rw [show pre D k k = .int .i64 (st D k : Int) from by unfold pre; rw [if_pos (Nat.le_refl _)]] at h
        exact h
      have z1 : wr.frozen? ⟨w.heap.size + 1 + 1 + 1, k + 1, none⟩ = false := hpre.row.frozen (k + 1)
      have b1 := cnt_le D (k : Int) D.N
      have b2 := st_le D k
      have b3 : k * D.N ≤ 65536 * 1048576 := Nat.mul_le_mul (by omega) hN
      go_wp2
      go_region
      go_wp2
      go_roundw
      case rel => exact ⟨k + 1, by omega, by go_num, hstep.out⟩
      case measure => simp [intOf]; omega
    · obtain rfl : n = k := by omega
      have b2 := st_le D n
      have b3 : n * D.N ≤ 65536 * 1048576 := Nat.mul_le_mul (by omega) hN
      have hmk3 := run_make_row' (P := Try.prog) 31 21 (.int .i32 0) 4 Try.underlying31 Try.info21 rfl .i64 .i64 (st D n) (by omega) (by omega)
      have cn : wr.cell? ⟨w.heap.size + 1 + 1 + 1, n, none⟩ = some (.int .i64 (st D n : Int)) := by
        have h := hpre.row.cell (i := n) (by omega)
        rw [show pre D n n = .int .i64 (st D n : Int) from by unfold pre; rw [if_pos (Nat.le_refl _)]] at h
        exact h
      have hix : (n : Int) < ((n + 1 : Nat) : Int) := by omega
      have hsz : w.heap.size + 1 + 1 + 1 + 1 < wr.heap.size := cell_lt hvar
      have hsz3 : w.heap.size + 1 + 1 + 1 < wr.heap.size := by omega
      go_wp2
      go_cut [9] (fun x wc => ∃ X b bf, x = .pointer (some ⟨X, 0, none⟩) ∧ Mid w.heap.size D (.slice fa D.N fcap) n (w.heap.size + 4) (w.heap.size + 3) X b bf w wc)
      case first =>
        go_region
        all_goals go_wp2_with fail
        all_goals go_meet
        · obtain ⟨w3, ew3, q1, q2, q3, q4, q5⟩ := mid1 wr (.slice (some ⟨w.heap.size + 1 + 1 + 1, 0, none⟩) (n + 1) (n + 1)) (.slice (some ⟨wr.heap.size, 0, none⟩) (st D n) (st D n)) (st D n)
          rw [← ew3]
          exact ⟨_, _, _, rfl, Mid.of hpre hsz rfl rfl q1 q2 q3 q4 q5 (by omega) (by omega) (by omega) (by omega) (by omega)⟩
        · obtain ⟨w3, ew3, q1, q2, q3, q4, q5⟩ := mid2 wr (.slice (some ⟨w.heap.size + 1 + 1 + 1, 0, none⟩) (n + 1) (n + 1)) (.slice (some ⟨wr.heap.size, 0, none⟩) (st D n) (st D n)) (st D n)
          rw [← ew3]
          exact ⟨_, _, _, rfl, Mid.of hpre hsz rfl rfl q1 q2 q3 q4 q5 (by omega) (by omega) (by omega) (by omega) (by omega)⟩
        · obtain ⟨w3, ew3, q1, q2, q3, q4, q5⟩ := mid3 wr (.slice (some ⟨w.heap.size + 1 + 1 + 1, 0, none⟩) (n + 1) (n + 1)) (.slice (some ⟨wr.heap.size + 1, 0, none⟩) (st D n) (st D n)) (st D n)
          rw [← ew3]
          exact ⟨_, _, _, rfl, Mid.of hpre hsz rfl rfl q1 q2 q3 q4 q5 (by omega) (by omega) (by omega) (by omega) (by omega)⟩
      case rest =>
        obtain ⟨X, b, bf, rfl, hmid⟩ := hcut
        clear hpre hvar cn hsz hsz3
        have hvar : wc.cell? ⟨w.heap.size + 1 + 1 + 1 + 1, 0, none⟩ = some (.slice (some ⟨w.heap.size + 1 + 1 + 1, 0, none⟩) (n + 1) (n + 1)) := hmid.var
        obtain ⟨i0, hi, hz0, hz1, hz2⟩ := info_parts Try.info3
        have hle : (n : Int) ≤ ((n + 1 : Nat) : Int) := by omega
        go_wp2_with (first | (at_builtin; refine wpList_append_own _ rfl _ _ 29 rfl wc.heap.size 3 i0 (.int .i64 0) 1 8 Try.underlying29 hi hz0 hz1 hz2 rfl (by decide) _ _ _ rfl (World.ownsRow_nil _ _ _ _) ⟨w.heap.size + 1 + 1 + 1, 0, none⟩ n (n + 1) ((List.range n).map fun k => Value.int .i64 (st D k : Int)) rfl (by simp) ?c1 ?c2 ?c3 ?c4 ?c5 ?_))
        case c1 =>
          intro j u hj
          have hjn : j < n := by
            rcases Nat.lt_or_ge j n with h | h
            · exact h
            · rw [List.getElem?_eq_none (by simp; omega)] at hj; cases hj
          rw [List.getElem?_map, List.getElem?_range hjn] at hj
          simp only [Option.map_some, Option.some.injEq] at hj
          subst hj
          have h := hmid.row.cell (i := j) (by omega)
          have e : (⟨w.heap.size + 1 + 1 + 1, 0, none⟩ : Addr).add j = ⟨w.heap.size + 1 + 1 + 1, j, none⟩ := by
            by_cases h : j = 0 <;> simp [Addr.add, h]
          rw [e]
          exact h
        case c2 => intro u hu; simp only [List.mem_map] at hu; obtain ⟨k, _, rfl⟩ := hu; rfl
        case c3 => unfold maxLen; omega
        case c4 => omega
        case c5 => exact Nat.le_refl _
        intro v' w4 hown hgrow _
        have bel4 : Below wc.heap.size wc w4 := ⟨hgrow.os, hgrow.tape, hgrow.output, hgrow.size, fun k hk => hgrow.block k hk (by simp [Value.ownBlock])⟩
        have hBc : w.heap.size + 4 < wc.heap.size := cell_lt hmid.var
        have hmid4 := hmid.kept (by omega) bel4
        obtain ⟨na, nl, nc, g0, cap, rfl, hnx⟩ := owns_open hown
        obtain ⟨g, hg⟩ : ∃ g, g = if 0 < n then g0 else w4.heap.size + 1 := ⟨_, rfl⟩
        have s1 := cell_lt hmid.x
        have s2 := cell_lt hmid.i0
        have s3 := hmid.frow.lt
        have s4 := bel4.size
        have hmid5 := hmid4.kept (w := w4.alloc (.cells #[.slice na nl nc] 29)) (by omega) ((Below.refl _ _).alloc (Nat.le_refl _) _)
        have hI5 : I2 D X w4.heap.size b (w.heap.size + 3) bf g cap n (fun _ => 0) (w4.alloc (.cells #[.slice na nl nc] 29)) := by
          refine I2.start hmid5 (cell_new w4 _ _ 0 _ rfl) (fun hn0 => ?_)
          obtain ⟨e1, e2, e3, e4, k, hr, hk⟩ := hnx hn0
          rw [if_pos hn0] at hg
          subst hg
          refine ⟨e1, e4, k, hr.alloc _, fun j hj => ?_⟩
          have h := hk j hj
          rw [List.getElem?_map, List.getElem?_range hj] at h
          simpa using h.symm
        have hgr : wc.heap.size ≤ g ∧ g ≠ w4.heap.size := by
          by_cases hn0 : 0 < n
          · obtain ⟨_, e2, e3, _⟩ := hnx hn0
            rw [if_pos hn0] at hg
            omega
          · rw [if_neg hn0] at hg
            omega
        have ap : Apart w.heap.size X w4.heap.size b (w.heap.size + 3) bf g := by
          have t1 := hmid.lX
          have t2 := hmid.lb
          have t3 := hmid.lf
          have t4 := hmid.Xf
          have t5 := hmid.bf'
          have s1' : X < wc.heap.size := s1
          have s2' : b < wc.heap.size := s2
          constructor <;> omega
        have R5 := each18 w.heap.size D (.slice fa D.N fcap) n (I2 D X w4.heap.size b (w.heap.size + 3) bf g cap n) X w4.heap.size (w4.alloc (.cells #[.slice na nl nc] 29)) hn hN ok hdom hmid5.env hmid5.lrow hI5 (I2.stab ap) (visit2 D w.heap.size X w4.heap.size b _ bf g cap n hn hN ap)
        have bel5 := hmid5.below
        clear hI5 hnx hown hgrow hmid4 hmid5 hmid hvar hg hgr ap
        go_wp2_with fail
        refine R5.mono ?_
        rintro e w6 ⟨rfl, hest⟩
        have hx := hest.inv.x
        obtain ⟨fl, hidx⟩ := Idx.of hest
        have bel6 := bel5.trans hest.below
        clear hest R5
        go_wp2
        go_ret
        exact ⟨_, _, _, fl, rfl, hidx, bel6⟩
end Go.Proofs.Qxb6630895a
