import Derived.Test.Qxb6628649aDoorW1
namespace Go.Proofs.Qxb6628649aDoor
open Go.RowKit

structure Digs (U : Nat) (w : World) (v : Int) (p : Nat) (wr : World) (suf : List UInt8) : Prop where
  len : suf.length + p = 24
  num : Lib.decDigits U = Lib.decDigits v.toNat ++ suf
  cells : ∀ t b, suf[t]? = some b → wr.cell? ⟨w.heap.size, p + t, none⟩ = some (.int .u8 b.toNat)
  there : ∀ j, j < 24 → ∃ x, wr.cell? ⟨w.heap.size, j, none⟩ = some x
  free : ∀ j, wr.frozen? ⟨w.heap.size, j, none⟩ = false
  below : Below w.heap.size w wr

theorem slice_from (b : Nat) (r : Nat) (hr : r < 24) (W : World) : (Instr.sliceAt 43 (.pointer (some ⟨b, 0, none⟩)) (some (.int .i64 (r : Int))) none none).run Tryd.prog W = .ok (.slice (some ⟨b, r, none⟩) (24 - r) (24 - r)) W := by
  have h1 : Tryd.prog.arrayLen 43 = 24 := by kernel_rfl
  have h2 : (sizeOf (Tryd.prog.elem 43)).run Tryd.prog W = .ok 1 W := by kernel_rfl
  have h3 : Tryd.prog.underlying 43 = some (.array (Tryd.prog.arrayLen 43) (Tryd.prog.elem 43)) := by kernel_rfl
  rw [run_sliceAt_array_l W 43 ⟨b, 0, none⟩ h3 .i64 (r : Int) (by omega) (by rw [h1]; omega), h2, h1]
  simp only [Result.andThen, slicedAt, Int.toNat_natCast, Nat.mul_one]
  rw [if_neg (by omega)]
  by_cases e : r = 0
  · subst e; rfl
  · simp [Addr.add, e]

theorem digit_byte (v : Int) (h0 : 0 ≤ v) : ((UInt8.ofNat (48 + v.toNat % 10)).toNat : Int) = 48 + v % 10 := by
  rw [UInt8.toNat_ofNat']
  omega

/-- ONE ROUND: the next digit. -/
theorem Digs.step {U : Nat} {w : World} {v : Int} {q : Nat} {wr : World} {suf : List UInt8} (h : Digs U w v (q + 1) wr suf) (h0 : 0 ≤ v) (h10 : ¬ v / 10 = 0) :
    Digs U w (v / 10) q (wr.setCell ⟨w.heap.size, q, none⟩ (.int .u8 (48 + v % 10))) (UInt8.ofNat (48 + v.toNat % 10) :: suf) where
  len := by have := h.len; simp; omega
  num := by
    rw [h.num, Lib.decDigits, dif_neg (by omega), List.append_assoc]
    congr 2
    omega
  cells := by
    intro t b hb
    cases t with
    | zero =>
      obtain rfl : UInt8.ofNat (48 + v.toNat % 10) = b := Option.some.inj hb
      obtain ⟨x, hx⟩ := h.there q (by have := h.len; omega)
      rw [Nat.add_zero, World.cell?_setCell_same _ _ _ hx, digit_byte v h0]
    | succ t =>
      rw [World.cell?_setCell_other _ _ _ _ (by simp)]
      have := h.cells t b (by simpa using hb)
      rwa [show q + 1 + t = q + (t + 1) from by omega] at this
  there := by
    intro j hj
    obtain ⟨x, hx⟩ := h.there j hj
    by_cases e : j = q
    · subst e; exact ⟨_, World.cell?_setCell_same _ _ _ hx⟩
    · exact ⟨x, (World.cell?_setCell_other _ _ _ _ (by simp)).trans hx⟩
  free := by intro j; rw [World.frozen?_setCell]; exact h.free j
  below := h.below.setCell (Nat.le_refl _) _

theorem Digs.small {U : Nat} {w : World} {v : Int} {q : Nat} {wr : World} {suf : List UInt8} (h : Digs U w v q wr suf) (hU : U < 18446744073709551616) : 5 ≤ q := by
  have h1 := congrArg List.length h.num
  rw [List.length_append, Lib.decDigits_length, Lib.decDigits_length] at h1
  have h2 := Lib.nDigits_le20 U hU
  have h3 := Lib.nDigits_pos v.toNat
  have h4 := h.len
  omega

/-- THE LAST ROUND: the whole numeral lies there. -/
theorem Digs.last {U : Nat} {w : World} {v : Int} {q : Nat} {wr : World} {suf : List UInt8} (h : Digs U w v (q + 1) wr suf) (h0 : 0 ≤ v) (h10 : v / 10 = 0) :
    (Lib.decDigits U).length + q = 24 ∧ (∀ t b, (Lib.decDigits U)[t]? = some b → (wr.setCell ⟨w.heap.size, q, none⟩ (.int .u8 (48 + v % 10))).cell? ⟨w.heap.size, q + t, none⟩ = some (.int .u8 b.toNat)) := by
  have hn : Lib.decDigits U = UInt8.ofNat (48 + v.toNat % 10) :: suf := by
    rw [h.num, Lib.decDigits, dif_pos (by omega), Nat.mod_eq_of_lt (by omega)]; rfl
  rw [hn]
  refine ⟨by have := h.len; simp; omega, ?_⟩
  intro t b hb
  cases t with
  | zero =>
    obtain rfl : UInt8.ofNat (48 + v.toNat % 10) = b := Option.some.inj hb
    obtain ⟨x, hx⟩ := h.there q (by have := h.len; omega)
    rw [Nat.add_zero, World.cell?_setCell_same _ _ _ hx, digit_byte v h0]
  | succ t =>
    rw [World.cell?_setCell_other _ _ _ _ (by simp)]
    have := h.cells t b (by simpa using hb)
    rwa [show q + 1 + t = q + (t + 1) from by omega] at this

theorem convert_digs (l : List UInt8) (b q : Nat) (W : World) (hl : l.length + q = 24) (hc : ∀ t c, l[t]? = some c → W.cell? ⟨b, q + t, none⟩ = some (.int .u8 c.toNat)) :
    (convert 44 9 (.slice (some ⟨b, q, none⟩) (24 - q) (24 - q))).run Tryd.prog W = .ok (.string ⟨l.toArray⟩) W := by
  rw [show 24 - q = l.length from by omega]
  exact run_convert_bytes_back W 44 9 5 ⟨b, q, none⟩ _ l Tryd.underlying44 Tryd.underlying5 Tryd.underlying9 fun j hj => by
    have := hc j _ (List.getElem?_eq_getElem hj)
    by_cases e : j = 0
    · subst e; exact this
    · simpa [Addr.add, e] using this

theorem convert_neg {n : Int} {w wr : World} {v : Int} {q : Nat} {suf : List UInt8} {y : Value} (h0 : 0 ≤ v) (h10 : v / 10 = 0) (h : Digs n.natAbs w v (q + 1 + 1) wr suf) (hn : n < 0) (hy : wr.cell? ⟨w.heap.size, q, none⟩ = some y) :
    (convert 44 9 (.slice (some ⟨w.heap.size, q, none⟩) (24 - q) (24 - q))).run Tryd.prog ((wr.setCell ⟨w.heap.size, q + 1, none⟩ (.int .u8 (48 + v % 10))).setCell ⟨w.heap.size, q, none⟩ (.int .u8 45)) =
      .ok (.string (itoaB n)) ((wr.setCell ⟨w.heap.size, q + 1, none⟩ (.int .u8 (48 + v % 10))).setCell ⟨w.heap.size, q, none⟩ (.int .u8 45)) := by
  obtain ⟨hL, hc⟩ := h.last h0 h10
  have e : Lib.itoa n = 45 :: Lib.decDigits n.natAbs := by rw [Lib.itoa, if_pos hn]
  have := convert_digs (45 :: Lib.decDigits n.natAbs) w.heap.size q ((wr.setCell ⟨w.heap.size, q + 1, none⟩ (.int .u8 (48 + v % 10))).setCell ⟨w.heap.size, q, none⟩ (.int .u8 45)) (by simp; omega) (by
    intro t c ht
    cases t with
    | zero =>
      obtain rfl : (45 : UInt8) = c := Option.some.inj ht
      exact World.cell?_setCell_same _ _ _ ((World.cell?_setCell_other wr ⟨w.heap.size, q + 1, none⟩ ⟨w.heap.size, q, none⟩ _ (by simp)).trans hy)
    | succ t =>
      rw [World.cell?_setCell_other _ _ _ _ (by simp)]
      have := hc t c (by simpa using ht)
      rwa [show q + 1 + t = q + (t + 1) from by omega] at this)
  rw [itoaB, e]
  exact this

theorem convert_pos {n : Int} {w wr : World} {v : Int} {q : Nat} {suf : List UInt8} (h0 : 0 ≤ v) (h10 : v / 10 = 0) (h : Digs n.natAbs w v (q + 1) wr suf) (hn : 0 ≤ n) :
    (convert 44 9 (.slice (some ⟨w.heap.size, q, none⟩) (24 - q) (24 - q))).run Tryd.prog (wr.setCell ⟨w.heap.size, q, none⟩ (.int .u8 (48 + v % 10))) =
      .ok (.string (itoaB n)) (wr.setCell ⟨w.heap.size, q, none⟩ (.int .u8 (48 + v % 10))) := by
  obtain ⟨hL, hc⟩ := h.last h0 h10
  have e : Lib.itoa n = Lib.decDigits n.natAbs := by rw [Lib.itoa, if_neg (by omega)]; congr 1; omega
  rw [itoaB, e]
  exact convert_digs (Lib.decDigits n.natAbs) w.heap.size q _ hL hc

set_option maxHeartbeats 400000 in
theorem zitoa_neg (n : Int) (w : World) (h0 : -9223372036854775808 ≤ n) (h1 : n < 0) :
    Calls Tryd.prog 9 #[.int .i64 n] w fun e w' => e = .returned (.string (itoaB n)) ∧ Below w.heap.size w w' := by
  go_enter Tryd.func9, Tryd.ntmps9
  go_wp2
  go_loopw [3, 6] (fun u i wr => ∃ (v : Int) (p : Nat), u = .int .u64 v ∧ i = .int .i64 p ∧ 0 ≤ v ∧ v ≤ 9223372036854775808 ∧ 5 ≤ p ∧ p ≤ 24 ∧ Hid (∃ suf, Digs n.natAbs w v p wr suf)) (fun _ i _ => (intOf i).toNat)
  case atStart =>
    refine ⟨-n, 24, by go_num, rfl, by omega, by omega, by omega, by omega, [], rfl, ?_, ?_, ?_, ?_, ?_⟩
    · rw [List.append_nil]; congr 1; omega
    · intro t b h; simp at h
    · intro j hj
      refine ⟨.int .u8 0, ?_⟩
      rw [World.cell?_alloc_at _ _ _ _ rfl]
      have hz : ∀ i, i < 24 → (Array.replicate 24 (Value.int .u8 0))[i]? = some (.int .u8 0) := by intro i hi; simp [hi]
      exact hz j hj
    · intro j
      rw [World.frozen?_alloc_at _ _ _ _ rfl]
    · exact (Below.refl _ _).alloc (Nat.le_refl _) _
  case round =>
    obtain ⟨v, p, rfl, rfl, hv0, hv1, hp5, hp24, HD⟩ := hrel
    obtain ⟨q, rfl⟩ : ∃ q, p = q + 2 := ⟨p - 2, by omega⟩
    obtain ⟨suf, hD⟩ := HD.out
    obtain ⟨x, hx⟩ := hD.there (q + 1) (by omega)
    have hf := hD.free (q + 1)
    clear HD
    have HD : Hid (Digs n.natAbs w v (q + 1 + 1) wr suf) := hD
    clear hD
    by_cases hz : v / 10 = 0
    · have hzb : (v / 10 == 0) = true := by simp [hz]
      obtain ⟨y, hy⟩ := HD.out.there q (by omega)
      have hfy := HD.out.free q
      have hsl : ∀ W, (Instr.sliceAt 43 (.pointer (some ⟨w.heap.size, 0, none⟩)) (some (.int .i64 ((q : Int) + 2 - 1 - 1))) none none).run Tryd.prog W = .ok (.slice (some ⟨w.heap.size, q, none⟩) (24 - q) (24 - q)) W := by
        intro W; rw [show (q : Int) + 2 - 1 - 1 = q from by omega]; exact slice_from w.heap.size q (by omega) W
      have hcv := convert_neg hv0 hz HD.out h1 hy
      have HZ : Hid (v / 10 = 0) := hz
      clear hz
      go_wp2
      go_ret
      exact ⟨rfl, (HD.out.below.setCell (Nat.le_refl _) _).setCell (Nat.le_refl _) _⟩
    · have hzb : (v / 10 == 0) = false := by simp [hz]
      go_wp2
      go_roundw
      case rel =>
        have hst := HD.out.step hv0 hz
        exact ⟨v / 10, q + 1, rfl, by go_num, by omega, by omega, hst.small (by omega), by omega, _, hst⟩
      case measure => simp [intOf]; omega

set_option maxHeartbeats 400000 in
theorem zitoa_pos (n : Int) (w : World) (h0 : 0 ≤ n) (h1 : n ≤ 9223372036854775807) :
    Calls Tryd.prog 9 #[.int .i64 n] w fun e w' => e = .returned (.string (itoaB n)) ∧ Below w.heap.size w w' := by
  have hdn : decide (n < 0) = false := by simp; omega
  go_enter Tryd.func9, Tryd.ntmps9
  go_wp2
  go_loopw [3, 6] (fun u i wr => ∃ (v : Int) (p : Nat), u = .int .u64 v ∧ i = .int .i64 p ∧ 0 ≤ v ∧ v ≤ 9223372036854775808 ∧ 5 ≤ p ∧ p ≤ 24 ∧ Hid (∃ suf, Digs n.natAbs w v p wr suf)) (fun _ i _ => (intOf i).toNat)
  case atStart =>
    refine ⟨n, 24, rfl, rfl, by omega, by omega, by omega, by omega, [], rfl, ?_, ?_, ?_, ?_, ?_⟩
    · rw [List.append_nil]; congr 1; omega
    · intro t b h; simp at h
    · intro j hj
      refine ⟨.int .u8 0, ?_⟩
      rw [World.cell?_alloc_at _ _ _ _ rfl]
      have hz : ∀ i, i < 24 → (Array.replicate 24 (Value.int .u8 0))[i]? = some (.int .u8 0) := by intro i hi; simp [hi]
      exact hz j hj
    · intro j
      rw [World.frozen?_alloc_at _ _ _ _ rfl]
    · exact (Below.refl _ _).alloc (Nat.le_refl _) _
  case round =>
    obtain ⟨v, p, rfl, rfl, hv0, hv1, hp5, hp24, HD⟩ := hrel
    obtain ⟨q, rfl⟩ : ∃ q, p = q + 1 := ⟨p - 1, by omega⟩
    obtain ⟨suf, hD⟩ := HD.out
    obtain ⟨x, hx⟩ := hD.there q (by omega)
    have hf := hD.free q
    clear HD
    have HD : Hid (Digs n.natAbs w v (q + 1) wr suf) := hD
    clear hD
    by_cases hz : v / 10 = 0
    · have hzb : (v / 10 == 0) = true := by simp [hz]
      have hsl : ∀ W, (Instr.sliceAt 43 (.pointer (some ⟨w.heap.size, 0, none⟩)) (some (.int .i64 (q : Int))) none none).run Tryd.prog W = .ok (.slice (some ⟨w.heap.size, q, none⟩) (24 - q) (24 - q)) W := slice_from w.heap.size q (by omega)
      have hcv := convert_pos hv0 hz HD.out h0
      have HZ : Hid (v / 10 = 0) := hz
      clear hz
      go_wp2
      go_ret
      exact ⟨rfl, HD.out.below.setCell (Nat.le_refl _) _⟩
    · have hzb : (v / 10 == 0) = false := by simp [hz]
      go_wp2
      go_roundw
      case rel =>
        have hst := HD.out.step hv0 hz
        exact ⟨v / 10, q, rfl, by go_num, by omega, by omega, hst.small (by omega), by omega, _, hst⟩
      case measure => simp [intOf]

theorem zitoa_any (n : Int) (w : World) (h0 : -9223372036854775808 ≤ n) (h1 : n ≤ 9223372036854775807) :
    Calls Tryd.prog 9 #[.int .i64 n] w fun e w' => e = .returned (.string (itoaB n)) ∧ Below w.heap.size w w' := by
  by_cases h : n < 0
  · exact zitoa_neg n w h0 h
  · exact zitoa_pos n w (by omega) h1

end Go.Proofs.Qxb6628649aDoor
