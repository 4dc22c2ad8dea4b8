import Derived.Test.Qxb6627355aMem
import Derived.Lib.BytesEntry
import Derived.Deep.QuietTactic
import Derived.BigQuiet
namespace Go.Proofs.Qxb6627355a
open Go.RowKit

/-! ### The model's entry for bytealg.Compare -/
theorem byte_lt {x y : Int} (hx : 0 ≤ x ∧ x ≤ 255) (hy : 0 ≤ y ∧ y ≤ 255) : (UInt8.ofNat x.toNat < UInt8.ofNat y.toNat ↔ x < y) := by
  rw [UInt8.lt_iff_toNat_lt]
  simp only [UInt8.toNat_ofNat']
  omega
theorem byte_ne {x y : Int} (hx : 0 ≤ x ∧ x ≤ 255) (hy : 0 ≤ y ∧ y ≤ 255) : (UInt8.ofNat x.toNat = UInt8.ofNat y.toNat ↔ x = y) := by
  rw [← UInt8.toNat_inj]
  simp only [UInt8.toNat_ofNat']
  omega
theorem byte_at {m i : Nat} {X : Nat → Int} (hi : i < m) : (⟨(Lib.bytesOf (ls m X)).toArray⟩ : ByteArray)[i]! = UInt8.ofNat (X i).toNat := by
  have hs : i < (⟨(Lib.bytesOf (ls m X)).toArray⟩ : ByteArray).size := by simp [ByteArray.size, Lib.bytesOf, ls, hi]
  rw [getElem!_pos (⟨(Lib.bytesOf (ls m X)).toArray⟩ : ByteArray) i hs]
  show (Lib.bytesOf (ls m X)).toArray[i]'(by simp [Lib.bytesOf, ls, hi]) = _
  simp [Lib.bytesOf, ls]
theorem byte_size (m : Nat) (X : Nat → Int) : (⟨(Lib.bytesOf (ls m X)).toArray⟩ : ByteArray).size = m := by simp [ByteArray.size, Lib.bytesOf, ls]
theorem entry_cmp {m n : Nat} {X Y : Nat → Int} (hX : ∀ i, i < m → 0 ≤ X i ∧ X i ≤ 255) (hY : ∀ i, i < n → 0 ≤ Y i ∧ Y i ≤ 255) :
    Extern.BytealgCompare.cmp ⟨(Lib.bytesOf (ls m X)).toArray⟩ ⟨(Lib.bytesOf (ls n Y)).toArray⟩ = cmp (ls m X) (ls n Y) := by
  unfold Extern.BytealgCompare.cmp
  rw [byte_size, byte_size]
  split
  · rename_i i hfind
    rw [List.find?_range_eq_some] at hfind
    obtain ⟨h1, h2, h3⟩ := hfind
    have hi : i < min m n := List.mem_range.1 h2
    have hm : i < m := by omega
    have hn : i < n := by omega
    rw [byte_at hm, byte_at hn] at h1
    rw [byte_at hm, byte_at hn]
    have hsame : ∀ k, k < i → X k = Y k := by
      intro k hk
      have := h3 k hk
      rw [byte_at (show k < m by omega), byte_at (show k < n by omega)] at this
      simp only [Bool.not_eq_true', bne_eq_false_iff_eq] at this
      exact (byte_ne (hX k (by omega)) (hY k (by omega))).1 this
    have hne : X i ≠ Y i := by
      intro e
      rw [e] at h1
      simp at h1
    have hp := cmp_part hm hn hsame
    by_cases hlt : X i < Y i
    · rw [if_pos ((byte_lt (hX i hm) (hY i hn)).2 hlt), hp.1 hlt]
    · rw [if_neg (fun h => hlt ((byte_lt (hX i hm) (hY i hn)).1 h)), hp.2 (by omega)]
  · rename_i hfind
    rw [List.find?_range_eq_none] at hfind
    rw [cmp_ends (fun k h1 h2 => by
      have := hfind k (by omega)
      rw [byte_at h1, byte_at h2] at this
      simp only [Bool.not_eq_true', bne_eq_false_iff_eq] at this
      exact (byte_ne (hX k h1) (hY k h2)).1 this)]

theorem run_bytes {w : World} {a : Option Addr} {n c : Nat} {X : Nat → Int} (h : Bts w a n X) (ha : a = none → n = 0) :
    (Extern.Bytes.bytesOf (.slice a n c)).run Try.prog w = .ok ⟨(Lib.bytesOf (ls n X)).toArray⟩ w := by
  cases a with
  | none =>
    obtain rfl := ha rfl
    rfl
  | some p =>
    obtain ⟨b, o, h⟩ := h
    have hl := Lib.run_loadBytesX (P := Try.prog) w (ls n X) p .empty (fun j x hj => by
      have hjl : j < n := by
        rcases Nat.lt_or_ge j n with hl | hl
        · exact hl
        · rw [List.getElem?_eq_none (by rw [ls_length]; exact hl)] at hj; cases hj
      rw [ls_get hjl] at hj
      cases hj
      obtain ⟨e, hc, _⟩ := h j hjl
      cases e
      have e2 : (⟨b, o, none⟩ : Addr).add j = ⟨b, o + j, none⟩ := by unfold Addr.add; split <;> simp_all
      rw [e2]; exact hc)
    rw [ls_length] at hl
    show (Extern.Bytes.loadBytes p n .empty).run Try.prog w = _
    rw [hl]
    have he : (⟨ByteArray.empty.data ++ (Lib.bytesOf (ls n X)).toArray⟩ : ByteArray) = ⟨(Lib.bytesOf (ls n X)).toArray⟩ := by
      apply ByteArray.ext
      show (#[] : Array UInt8) ++ (Lib.bytesOf (ls n X)).toArray = (Lib.bytesOf (ls n X)).toArray
      simp
    rw [he]

theorem Bts.bounds {w : World} {a : Option Addr} {n : Nat} {X : Nat → Int} (h : Bts w a n X) : ∀ i, i < n → 0 ≤ X i ∧ X i ≤ 255 := by
  obtain ⟨b, o, h⟩ := h
  exact fun i hi => (h i hi).2.2

theorem call27 (args : Array Value) (w : World) : (callFunc 27 args).run Try.prog w = ((Extern.BytealgCompare.compare args).run Try.prog w).andThen fun v w' => .ok (.value v) w' :=
  run_callFunc_extern Try.func27 (by kernel_rfl) (by kernel_rfl) (by kernel_rfl) (by kernel_rfl) args w

theorem run_compare {w : World} {a b : Option Addr} {m n ca cb : Nat} {X Y : Nat → Int} (hA : Bts w a m X) (hB : Bts w b n Y) (ha : a = none → m = 0) (hb : b = none → n = 0) :
    (callFunc 27 #[.slice a m ca, .slice b n cb]).run Try.prog w = .ok (.value (.int .i64 (cmp (ls m X) (ls n Y)))) w := by
  rw [call27]
  have h1 := run_bytes (c := ca) hA ha
  have h2 := run_bytes (c := cb) hB hb
  have h3 : (Extern.BytealgCompare.compare #[.slice a m ca, .slice b n cb]).run Try.prog w = .ok (.int .i64 (cmp (ls m X) (ls n Y))) w := by
    change Sem.run Try.prog (do
      let x ← Extern.Bytes.bytesOf (.slice a m ca)
      let y ← Extern.Bytes.bytesOf (.slice b n cb)
      pure (goInt (Extern.BytealgCompare.cmp x y))) w = _
    simp only [Sem.run_bind, Sem.run_pure, h1, h2, Result.andThen, entry_cmp hA.bounds hB.bounds, goInt]
  rw [h3]
  rfl

set_option maxHeartbeats 400000 in
/-- bytes.Compare. -/
theorem bcompare_calls {w : World} {a b : Option Addr} {m n ca cb : Nat} {X Y : Nat → Int} (hA : Bts w a m X) (hB : Bts w b n Y) (ha : a = none → m = 0) (hb : b = none → n = 0) :
    Calls Try.prog 24 #[.slice a m ca, .slice b n cb] w fun e w' => e = .returned (.int .i64 (cmp (ls m X) (ls n Y))) ∧ w' = w := by
  have hr := run_compare (ca := ca) (cb := cb) hA hB ha hb
  clear hA hB
  generalize cmp (ls m X) (ls n Y) = r at *
  go_enter Try.func24, Try.ntmps24
  go_wp2
  go_ret
  exact ⟨rfl, rfl⟩

/-! ### zzCompare -/
def SameTo (X Y : Nat → Int) (i : Nat) : Prop := ∀ k, k < i → X k = Y k

set_option maxHeartbeats 1000000 in
theorem compare_calls {w : World} {a b : Option Addr} {m n ca cb : Nat} {X Y : Nat → Int} (hA : Bts w a m X) (hB : Bts w b n Y) (hm : m ≤ 1048576) (hn : n ≤ 1048576) :
    Calls Try.prog 17 #[.slice a m ca, .slice b n cb] w (NumPost (cmp (ls m X) (ls n Y)) w) := by
  obtain ⟨b1, o1, hA⟩ := hA
  obtain ⟨b2, o2, hB⟩ := hB
  by_cases hnm : n < m
  · go_enter Try.func17, Try.ntmps17
    go_wp2
    go_loopw [6] (fun x wr => ∃ i : Nat, i ≤ n ∧ x = .int .i64 i ∧ SameTo X Y i ∧ Drawn w wr) (fun x _ => n - (intOf x).toNat)
    case atStart => exact ⟨0, Nat.zero_le _, rfl, fun k hk => absurd hk (Nat.not_lt_zero _), Drawn.refl _⟩
    case round =>
      obtain ⟨i, hi, rfl, hsame, hdr⟩ := hrel
      by_cases hlt : i < n
      · obtain ⟨rfl, c1, _⟩ := hA i (by omega)
        obtain ⟨rfl, c2, _⟩ := hB i (by omega)
        replace c1 := cell_keep' c1 hdr.below
        replace c2 := cell_keep' c2 hdr.below
        clear hA hB
        have l1 : (i : Int) < (m : Int) := by omega
        have l2 : (i : Int) < (n : Int) := by omega
        rcases Int.lt_trichotomy (X i) (Y i) with h1 | h1 | h1
        · have HE : Hid (cmp (ls m X) (ls n Y) = -1) := (cmp_part (by omega) (by omega) hsame).1 h1
          go_wp2
          go_quiet (fail)
          go_wp2
          go_ret
          exact ⟨by rw [HE.out]; rfl, by first | exact hdr | exact hdr.draw _ | exact (hdr.draw _).draw _⟩
        · have n1 : ¬ X i < Y i := by omega
          have n2 : ¬ Y i < X i := by omega
          have HE : Hid (X i = Y i) := h1
          clear h1
          go_wp2
          go_quiet (fail)
          go_wp2
          go_quiet (fail)
          go_wp2
          go_roundw
          case rel => exact ⟨i + 1, by omega, by go_num, fun k hk => by
                rcases Nat.lt_succ_iff_lt_or_eq.1 hk with h | rfl
                · exact hsame k h
                · exact HE.out, by first | exact hdr | exact hdr.draw _ | exact (hdr.draw _).draw _⟩
          case measure => simp [intOf]; omega
        · have HE : Hid (cmp (ls m X) (ls n Y) = 1) := (cmp_part (by omega) (by omega) hsame).2 h1
          have n1 : ¬ X i < Y i := by omega
          go_wp2
          go_quiet (fail)
          go_wp2
          go_quiet (fail)
          go_wp2
          go_ret
          exact ⟨by rw [HE.out]; rfl, by first | exact hdr | exact hdr.draw _ | exact (hdr.draw _).draw _⟩
      · have HE : Hid (cmp (ls m X) (ls n Y) = if m < n then -1 else if n < m then 1 else 0) := cmp_ends (fun k h1 h2 => hsame k (by omega))
        go_wp2
        go_ret
        exact ⟨by rw [HE.out, if_neg (by omega), if_pos hnm]; rfl, by first | exact hdr | exact hdr.draw _ | exact (hdr.draw _).draw _⟩
  · go_enter Try.func17, Try.ntmps17
    go_wp2
    go_loopw [6] (fun x wr => ∃ i : Nat, i ≤ m ∧ x = .int .i64 i ∧ SameTo X Y i ∧ Drawn w wr) (fun x _ => m - (intOf x).toNat)
    case atStart => exact ⟨0, Nat.zero_le _, rfl, fun k hk => absurd hk (Nat.not_lt_zero _), Drawn.refl _⟩
    case round =>
      obtain ⟨i, hi, rfl, hsame, hdr⟩ := hrel
      by_cases hlt : i < m
      · obtain ⟨rfl, c1, _⟩ := hA i (by omega)
        obtain ⟨rfl, c2, _⟩ := hB i (by omega)
        replace c1 := cell_keep' c1 hdr.below
        replace c2 := cell_keep' c2 hdr.below
        clear hA hB
        have l1 : (i : Int) < (m : Int) := by omega
        have l2 : (i : Int) < (n : Int) := by omega
        rcases Int.lt_trichotomy (X i) (Y i) with h1 | h1 | h1
        · have HE : Hid (cmp (ls m X) (ls n Y) = -1) := (cmp_part (by omega) (by omega) hsame).1 h1
          go_wp2
          go_quiet (fail)
          go_wp2
          go_ret
          exact ⟨by rw [HE.out]; rfl, by first | exact hdr | exact hdr.draw _ | exact (hdr.draw _).draw _⟩
        · have n1 : ¬ X i < Y i := by omega
          have n2 : ¬ Y i < X i := by omega
          have HE : Hid (X i = Y i) := h1
          clear h1
          go_wp2
          go_quiet (fail)
          go_wp2
          go_quiet (fail)
          go_wp2
          go_roundw
          case rel => exact ⟨i + 1, by omega, by go_num, fun k hk => by
                rcases Nat.lt_succ_iff_lt_or_eq.1 hk with h | rfl
                · exact hsame k h
                · exact HE.out, by first | exact hdr | exact hdr.draw _ | exact (hdr.draw _).draw _⟩
          case measure => simp [intOf]; omega
        · have HE : Hid (cmp (ls m X) (ls n Y) = 1) := (cmp_part (by omega) (by omega) hsame).2 h1
          have n1 : ¬ X i < Y i := by omega
          go_wp2
          go_quiet (fail)
          go_wp2
          go_quiet (fail)
          go_wp2
          go_ret
          exact ⟨by rw [HE.out]; rfl, by first | exact hdr | exact hdr.draw _ | exact (hdr.draw _).draw _⟩
      · have HE : Hid (cmp (ls m X) (ls n Y) = if m < n then -1 else if n < m then 1 else 0) := cmp_ends (fun k h1 h2 => hsame k (by omega))
        by_cases hmn : m < n
        · go_wp2
          go_ret
          exact ⟨by rw [HE.out, if_pos hmn]; rfl, by first | exact hdr | exact hdr.draw _ | exact (hdr.draw _).draw _⟩
        · go_wp2
          go_ret
          exact ⟨by rw [HE.out, if_neg hmn, if_neg hnm]; rfl, by first | exact hdr | exact hdr.draw _ | exact (hdr.draw _).draw _⟩
end Go.Proofs.Qxb6627355a
