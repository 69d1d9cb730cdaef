import Derived.Test.Qxb6628649aDoorW8
namespace Go.Proofs.Qxb6628649aDoor
open Go.RowKit

theorem info38 : (Tryd.prog.info? 38).map (fun i => (i.zero, i.size, i.bytes)) = some (some (.agg #[.string ⟨#[]⟩, .int .i64 0, .int .i64 0, .int .i64 0, .string ⟨#[]⟩, .int .i64 0]), 6, 64) := by kernel_rfl

def Cnd.vals (c : Cnd) : List Value := [.string c.op, .int .i64 c.ma, .int .i64 c.mi, .int .i64 c.pa, .string c.pre, .int .i64 c.pt]
def valsOf (cs : List Cnd) : List Value := cs.flatMap Cnd.vals

theorem valsOf_length (cs : List Cnd) : (valsOf cs).length = cs.length * 6 := by
  induction cs with
  | nil => rfl
  | cons c r ih => simp only [valsOf, List.flatMap_cons, List.length_append, List.length_cons] at ih ⊢; rw [ih]; simp [Cnd.vals]; omega

theorem valsOf_at : ∀ (cs : List Cnd) (k : Nat) (c : Cnd) (j : Nat), cs[k]? = some c → j < 6 → (valsOf cs)[k * 6 + j]? = c.vals[j]?
  | [], k, c, j, h, _ => by simp at h
  | d :: r, 0, c, j, h, hj => by
    obtain rfl : d = c := Option.some.inj h
    simp only [valsOf, List.flatMap_cons, Nat.zero_mul, Nat.zero_add]
    rw [List.getElem?_append_left (by simpa [Cnd.vals] using hj)]
  | d :: r, k + 1, c, j, h, hj => by
    have ih := valsOf_at r k c j (by simpa using h) hj
    simp only [valsOf, List.flatMap_cons] at ih ⊢
    rw [List.getElem?_append_right (by simp [Cnd.vals]; omega), ← ih]
    congr 1
    simp [Cnd.vals]; omega

theorem valsOf_take_succ (cs : List Cnd) (k : Nat) (c : Cnd) (h : cs[k]? = some c) : valsOf (cs.take (k + 1)) = valsOf (cs.take k) ++ c.vals := by
  rw [List.take_add_one, h]
  simp [valsOf]

theorem holds_of_owns {w : World} {base g n cap : Nat} {cs : List Cnd} (h : w.ownsRow base 38 6 (.slice (some ⟨g, 0, none⟩) n cap) n (valsOf cs)) (hn : n = cs.length) : HoldsC w g 0 cs := by
  intro k c hc
  have hk : k < cs.length := (List.getElem?_eq_some_iff.1 hc).1
  have key : ∀ j, j < 6 → w.cell? ⟨g, 0 + k * 6 + j, none⟩ = c.vals[j]? := by
    intro j hj
    rw [Nat.zero_add, h.cellAt (k * 6 + j) (by rw [hn]; omega), valsOf_at cs k c j hc hj]
  exact ⟨key 0 (by decide), key 1 (by decide), key 2 (by decide), key 3 (by decide), key 4 (by decide), key 5 (by decide)⟩

theorem owns_below {w w' : World} {base e size g n cap : Nat} {xs : List Value} (h : w.ownsRow base e size (.slice (some ⟨g, 0, none⟩) n cap) n xs) (hb : Below w.heap.size w w') : w'.ownsRow base e size (.slice (some ⟨g, 0, none⟩) n cap) n xs :=
  h.kept (row := none) ⟨hb.os, hb.tape, hb.output, hb.size, fun k hk _ => hb.block k hk⟩ (.inr (by simp [Value.ownBlock]))

/-- What zzBuild hands back. -/
def Built (cs : List Cnd) (n : Nat) (w : World) (e : Ending) (w' : World) : Prop := ∃ g cap, e = .returned (.slice (some ⟨g, 0, none⟩) n cap) ∧ g < w'.heap.size ∧ HoldsC w' g 0 cs ∧ Below w.heap.size w w'

/-- The row under way: k elements of it are made. -/
structure Bld (w : World) (cs : List Cnd) (k cap : Nat) (wr : World) : Prop where
  own : wr.ownsRow w.heap.size 38 6 (.slice (some ⟨w.heap.size, 0, none⟩) k cap) k (valsOf cs)
  below : Below w.heap.size w wr
  lt : w.heap.size < wr.heap.size

theorem new_cells (w : World) (c : Cnd) : ∀ j u, c.vals[j]? = some u → (w.alloc (.cells #[.string c.op, .int .i64 c.ma, .int .i64 c.mi, .int .i64 c.pa, .string c.pre, .int .i64 c.pt] 38)).cell? ((⟨w.heap.size, 0, none⟩ : Addr).add j) = some u := by
  intro j u hu
  have e : (w.alloc (.cells #[.string c.op, .int .i64 c.ma, .int .i64 c.mi, .int .i64 c.pa, .string c.pre, .int .i64 c.pt] 38)).cell? ⟨w.heap.size, j, none⟩ = c.vals[j]? := by
    rw [World.cell?_alloc_at _ _ _ _ rfl]; simp [Cnd.vals]
  by_cases h : j = 0
  · subst h; exact e.trans hu
  · simpa [Addr.add, h] using e.trans hu

theorem vals_one (c : Cnd) : ∀ u ∈ c.vals, u.oneCell' = true := by
  intro u hu
  simp only [Cnd.vals, List.mem_cons, List.not_mem_nil, or_false] at hu
  rcases hu with rfl | rfl | rfl | rfl | rfl | rfl <;> rfl

theorem Bld.next {w wr w2 w3 : World} {cs : List Cnd} {k cap : Nat} {c : Cnd} {o : Obj} (h : Bld w (cs.take k) k cap wr) (hc : cs[k]? = some c) (hb : Below wr.heap.size wr w2)
    (hown : w3.ownsRow w.heap.size 38 6 (.slice (some ⟨w.heap.size, 0, none⟩) (k + 1) cap) (k + 1) (valsOf (cs.take k) ++ c.vals)) (hg : (w2.alloc o).grownBy w3 (some w.heap.size)) : Bld w (cs.take (k + 1)) (k + 1) cap w3 := by
  have z := hb.size
  have l := h.lt
  refine ⟨by rw [valsOf_take_succ cs k c hc]; exact hown, ?_, ?_⟩
  · exact ((h.below.trans (hb.mono (by omega))).alloc (by omega) o).grown hg (by simp; omega) (fun q hq => by cases hq; exact Nat.le_refl _)
  · have := hg.size; simp at this; omega

set_option maxHeartbeats 2000000 in
theorem build_any (xs ys : List Cnd) (ao bo : Option Addr) (ca cb n m : Nat) (w : World) (hnm : n + m ≤ 1048576) (HN : Hid (n = xs.length)) (HM : Hid (m = ys.length)) (HA : Hid (ArgC w ao xs)) (HB : Hid (ArgC w bo ys)) :
    Calls Tryd.prog 7 #[.slice ao n ca, .slice bo m cb] w (Built (xs ++ ys) (n + m) w) := by
  obtain ⟨i0, hi, hz0, hz1, hz2⟩ := info_parts info38
  go_enter Tryd.func7, Tryd.ntmps7
  go_wp2_with (at_make; refine wpList_make_own _ rfl _ _ 26 rfl w.heap.size 38 i0 _ 6 Tryd.underlying26 hi hz0 hz1 .i64 .i64 _ (n + m) rfl rfl (by omega) (by rw [hz2]; omega) (by unfold maxLen; omega) (Nat.le_refl _) ?_; intro w1 hown hgrow)
  have h1 : Bld w (xs.take 0) 0 (n + m) w1 := by
    refine ⟨by simpa [valsOf] using hown, (Below.refl _ _).grown hgrow (Nat.le_refl _) (fun q hq => by cases hq), ?_⟩
    exact (hown.lt w.heap.size rfl).2
  have H1 : Hid (Bld w (xs.take 0) 0 (n + m) w1) := h1
  clear h1 hown hgrow
  go_loopw [5, 6] (fun v i wr => ∃ k : Nat, k ≤ n ∧ i = .int .i64 k ∧ v = .slice (some ⟨w.heap.size, 0, none⟩) k (n + m) ∧ Hid (Bld w (xs.take k) k (n + m) wr)) (fun _ i _ => n - (intOf i).toNat)
  case atStart => exact ⟨0, Nat.zero_le _, rfl, rfl, H1⟩
  case round =>
    obtain ⟨k, hk, rfl, rfl, HR⟩ := hrel
    by_cases hlt : k < n
    · obtain ⟨b, o, c, hck, rfl, hb, hC⟩ := HA.out.at (k := k) (by rw [← HN.out]; exact hlt)
      obtain ⟨q0, q1, q2, q3, q4, q5⟩ := hC k c hck
      have HK : Hid (xs[k]? = some c) := hck
      clear hck hC
      have cc : ∀ j, wr.cell? ⟨b, j, none⟩ = w.cell? ⟨b, j, none⟩ := fun j => HR.out.below.cell (p := ⟨b, j, none⟩) hb
      rw [← cc] at q0 q1 q2 q3 q4 q5
      clear cc
      go_wp2_with fail
      refine (cond_any _ _ _ _ _ _ _).mono ?_
      rintro e w2 ⟨rfl, hb2⟩
      clear q0 q1 q2 q3 q4 q5
      go_wp2_with (at_builtin; refine wpList_append_fits _ rfl _ _ 26 rfl w.heap.size 38 i0 6 Tryd.underlying26 hi hz1 w.heap.size k (n + m) _ rfl ((owns_below HR.out.own hb2).alloc _) ⟨w2.heap.size, 0, none⟩ 1 1 c.vals rfl rfl (new_cells w2 c) (vals_one c) (by omega) ?_; intro w3 hown3 hgrow3)
      have hn := HR.out.next HK.out hb2 hown3 hgrow3
      clear hown3 hgrow3
      go_roundw
      case rel => exact ⟨k + 1, by omega, by go_num, rfl, hn⟩
      case measure => simp [intOf]; omega
    · have hkn : k = n := by omega
      subst hkn
      have h2 : Bld w ((xs ++ ys).take (k + 0)) (k + 0) (k + m) wr := by
        have := HR.out
        rw [Nat.add_zero, List.take_append_of_le_length (by rw [HN.out]; exact Nat.le_refl _)]
        exact this
      have H2 : Hid (Bld w ((xs ++ ys).take (k + 0)) (k + 0) (k + m) wr) := h2
      clear h2 HR H1
      go_wp2
      go_loopw [5, 7] (fun v i wr => ∃ l : Nat, l ≤ m ∧ i = .int .i64 l ∧ v = .slice (some ⟨w.heap.size, 0, none⟩) (k + l) (k + m) ∧ Hid (Bld w ((xs ++ ys).take (k + l)) (k + l) (k + m) wr)) (fun _ i _ => m - (intOf i).toNat)
      case atStart => exact ⟨0, Nat.zero_le _, rfl, rfl, H2⟩
      case round =>
        obtain ⟨l, hl, rfl, rfl, HR⟩ := hrel
        by_cases hlt2 : l < m
        · obtain ⟨b, o, c, hck, rfl, hb, hC⟩ := HB.out.at (k := l) (by rw [← HM.out]; exact hlt2)
          obtain ⟨q0, q1, q2, q3, q4, q5⟩ := hC l c hck
          have HK : Hid ((xs ++ ys)[k + l]? = some c) := by
            rw [List.getElem?_append_right (by rw [HN.out]; omega), ← HN.out, Nat.add_sub_cancel_left]; exact hck
          clear hck hC
          have cc : ∀ j, wr.cell? ⟨b, j, none⟩ = w.cell? ⟨b, j, none⟩ := fun j => HR.out.below.cell (p := ⟨b, j, none⟩) hb
          rw [← cc] at q0 q1 q2 q3 q4 q5
          clear cc
          go_wp2_with fail
          refine (cond_any _ _ _ _ _ _ _).mono ?_
          rintro e w2 ⟨rfl, hb2⟩
          clear q0 q1 q2 q3 q4 q5
          go_wp2_with (at_builtin; refine wpList_append_fits _ rfl _ _ 26 rfl w.heap.size 38 i0 6 Tryd.underlying26 hi hz1 w.heap.size (k + l) (k + m) _ rfl ((owns_below HR.out.own hb2).alloc _) ⟨w2.heap.size, 0, none⟩ 1 1 c.vals rfl rfl (new_cells w2 c) (vals_one c) (by omega) ?_; intro w3 hown3 hgrow3)
          have hn := HR.out.next HK.out hb2 hown3 hgrow3
          clear hown3 hgrow3
          go_roundw
          case rel => exact ⟨l + 1, by omega, by go_num, rfl, hn⟩
          case measure => simp [intOf]; omega
        · have hlm : l = m := by omega
          subst hlm
          go_wp2
          go_ret
          have hall : (xs ++ ys).take (k + l) = xs ++ ys := List.take_of_length_le (by rw [List.length_append, HN.out, HM.out]; exact Nat.le_refl _)
          have hfin := HR.out
          rw [hall] at hfin
          exact ⟨w.heap.size, k + l, rfl, hfin.lt, holds_of_owns hfin.own (by rw [List.length_append, HN.out, HM.out]), hfin.below⟩

end Go.Proofs.Qxb6628649aDoor
