import Derived.Test.Qxb6628755aW6
namespace Go.Proofs.Qxb6628755a
open Go.RowKit

/-- The world with the field laid. -/
def boxF (w : World) (f : F) : World := w.alloc (.cells #[.int .i64 f.t, .string f.v] 32)
theorem boxF_size (w : World) (f : F) : (boxF w f).heap.size = w.heap.size + 1 := by simp [boxF]
theorem boxF_below (w : World) (f : F) : Below w.heap.size w (boxF w f) := (Below.refl _ _).alloc (Nat.le_refl _) _

def Bf (w : World) (f : F) (W : World) : Prop := Below (w.heap.size + 1) (boxF w f) W
theorem Bf.c0 {w W : World} {f : F} (h : Bf w f W) : W.cell? ⟨w.heap.size, 0, none⟩ = some (.int .i64 f.t) :=
  (Below.cell h (p := ⟨w.heap.size, 0, none⟩) (Nat.lt_succ_self _)).trans (by simp [boxF, go_sem])
theorem Bf.c1 {w W : World} {f : F} (h : Bf w f W) : W.cell? ⟨w.heap.size, 1, none⟩ = some (.string f.v) :=
  (Below.cell h (p := ⟨w.heap.size, 1, none⟩) (Nat.lt_succ_self _)).trans (by simp [boxF, go_sem])
theorem Bf.below {w W : World} {f : F} (h : Bf w f W) : Below w.heap.size w W := (boxF_below w f).trans (Below.mono h (by omega))
theorem Bf.lt {w W : World} {f : F} (h : Bf w f W) : w.heap.size + 1 ≤ W.heap.size := by
  have := Below.size h
  rwa [boxF_size] at this
theorem Bf.next {w W W' : World} {f : F} (h : Bf w f W) (hb : Below (w.heap.size + 1) W W') : Bf w f W' := Below.trans h hb

theorem holds_take {w : World} {b o : Nat} {xs : List F} (h : HoldsF w b o xs) (k : Nat) : HoldsF w b o (xs.take k) := by
  intro j g hj
  rw [List.getElem?_take] at hj
  split at hj
  · exact h j g hj
  · cases hj

theorem holds_drop {w : World} {b o : Nat} {xs : List F} (h : HoldsF w b o xs) (k : Nat) : HoldsF w b (o + k * 2) (xs.drop k) := by
  intro j g hj
  rw [List.getElem?_drop] at hj
  have := h _ g hj
  rw [show o + k * 2 + j * 2 = o + (k + j) * 2 by omega]
  exact this

theorem Msg.holds {w W : World} {g n : Nat} {xs : List F} (h : Msg w g n xs n W) (hn : n = xs.length) : HoldsF W g 0 xs := by
  intro k f hf
  have hk : k < n := by rw [hn]; exact (List.getElem?_eq_some_iff.1 hf).1
  have := h.held k f hk hf
  rw [Nat.zero_add]
  exact this

theorem HoldsF.below {w w' : World} {b o L : Nat} {xs : List F} (h : HoldsF w b o xs) (hb : Below L w w') (hL : b < L) : HoldsF w' b o xs :=
  fun k f hf => ⟨(hb.cell (p := ⟨b, _, none⟩) hL).trans (h k f hf).1, (hb.cell (p := ⟨b, _, none⟩) hL).trans (h k f hf).2⟩

theorem HoldsF.src {w : World} {b o : Nat} {xs : List F} (h : HoldsF w b o xs) : ∀ j u, (valsOf xs)[j]? = some u → w.cell? ((⟨b, o, none⟩ : Addr).add j) = some u :=
  src_of_arg (L := b + 1) (.inr ⟨b, o, rfl, Nat.lt_succ_self _, h⟩) _ rfl

theorem get_ins (tag : Int) (xs : List F) (f : F) (k : Nat) : get tag ((xs.take k ++ [f]) ++ xs.drop k) = if (get tag (xs.take k)).2 = true then get tag (xs.take k) else if f.t = tag then (f.v, true) else get tag (xs.drop k) := by
  rw [List.append_assoc, get_append]
  by_cases h : (get tag (xs.take k)).2 = true
  · rw [if_pos h, if_pos h]
  · rw [if_neg h, if_neg h]
    rfl

theorem get_split (tag : Int) (xs : List F) (k : Nat) : get tag xs = if (get tag (xs.take k)).2 = true then get tag (xs.take k) else get tag (xs.drop k) := by
  rw [← get_append, List.take_append_drop]

set_option maxRecDepth 20000 in
set_option maxHeartbeats 4000000 in
theorem law4_some (a : Addr) (ca n : Nat) (i tag : Int) (f : F) (xs : List F) (w : World) (hn : n ≤ 9223372036854775807) (HN : Hid (n = xs.length)) (HA : Hid (ArgF w w.heap.size (some a) xs)) :
    Calls Try.prog 4 #[.slice (some a) n ca, .int .i64 i, .agg #[.int .i64 f.t, .string f.v], .int .i64 tag] w fun e w' => e = .returned (.bool true) ∧ Below w.heap.size w w' := by
  obtain ⟨i0, hi, hz0, hz1, hz2⟩ := info_parts info29
  go_enter Try.func4, Try.ntmps4
  go_wp2_with fail
  refine (bytes9_any (some a) ca n i tag f.t f.v xs _ hn HN ((HA.out.below (boxF_below w f)).mono (boxF_below w f).size)).mono ?_
  rintro e w1 ⟨r, rfl, hB1⟩
  have HX1 : Hid (Bf w f w1) := by
    have h : Below (boxF w f).heap.size (boxF w f) w1 := hB1
    rw [boxF_size] at h
    exact h
  clear hB1
  cases r
  · go_wp2_with fail
    go_ret
    exact ⟨rfl, HX1.out.below⟩
  · have HA1 : Hid (ArgF w1 w1.heap.size (some a) xs) := (HA.out.below HX1.out.below).mono HX1.out.below.size
    have c0 := HX1.out.c0
    have c1 := HX1.out.c1
    go_wp2_with fail
    refine (fields_any (some a) ca n xs w1 hn HN HA1).mono ?_
    rintro e w2 ⟨ba, rfl, ba0, ba1, han, rfl⟩
    by_cases hba : ba ≤ 1048576
    · have hn16 := han hba
      by_cases hv : f.v.size ≤ 1048576
      · by_cases hsum : ba + 24 + f.v.size ≤ 1048576
        · by_cases hin : 0 ≤ i ∧ i ≤ n
          · obtain ⟨hin0, hin1⟩ := hin
            obtain ⟨k, rfl⟩ := Int.eq_ofNat_of_zero_le hin0
            have hkn : k ≤ n := by omega
            clear hin0 hin1
            go_wp2_with fail
            refine (toMsg_some a ca n xs _ hn16 HN HA1).mono ?_
            rintro e w4 ⟨rfl, hM4⟩
            have HM4 : Hid (Msg w2 w2.heap.size n xs n w4) := hM4
            have HX4 : Hid (Bf w f w4) := HX1.out.next (hM4.below.mono HX1.out.lt)
            clear hM4 c0 c1
            go_upto_region 14 with (at_make; refine wpList_make_own _ rfl _ _ 26 rfl w4.heap.size 29 i0 _ 2 Try.underlying26 hi hz0 hz1 .i64 .i64 _ (n + 1) rfl rfl (by omega) (by rw [hz2]; omega) (by unfold maxLen; omega) (Nat.le_refl _) ?_; intro w5 hown5 hg5)
            have HO5 : Hid (w5.ownsRow w4.heap.size 29 2 (.slice (some ⟨w4.heap.size, 0, none⟩) 0 (n + 1)) 0 []) := hown5
            have HL5 : Hid (Below w4.heap.size w4 w5) := below_grown hg5 (Nat.le_refl _) (fun q hq => by cases hq)
            clear hown5 hg5
            have hlt : (valsOf (xs.take k)).length = k * 2 := by rw [valsOf_length, List.length_take, ← HN.out]; omega
            have hld : (valsOf (xs.drop k)).length = (n - k) * 2 := by rw [valsOf_length, List.length_drop, ← HN.out]
            have HH4 : Hid (HoldsF w4 w2.heap.size 0 xs) := HM4.out.holds HN.out
            have hm4 := HM4.out.lt
            go_upto_region 15 with (at_builtin; refine wpList_append_fits _ rfl _ _ 26 rfl w4.heap.size 29 i0 2 Try.underlying26 hi hz1 w4.heap.size 0 (n + 1) [] rfl HO5.out ⟨w2.heap.size, 0, none⟩ k n (valsOf (xs.take k)) rfl hlt (holds_take (HH4.out.below HL5.out hm4) k).src (vals_one _) (by omega) ?_; intro w6 hown6 hg6)
            have HO6 : Hid (w6.ownsRow w4.heap.size 29 2 (.slice (some ⟨w4.heap.size, 0, none⟩) k (n + 1)) k (valsOf (xs.take k))) := by
              show World.ownsRow _ _ _ _ _ _ _
              simpa using hown6
            have HL6 : Hid (Below w4.heap.size w4 w6) := HL5.out.grown hg6 HL5.out.size (fun q hq => by cases hq; exact Nat.le_refl _)
            clear hown6 hg6 HO5
            have HX6 : Hid (Bf w f w6) := HX4.out.next (HL6.out.mono HX4.out.lt)
            have c0 := HX6.out.c0
            have c1 := HX6.out.c1
            go_upto_region 16 with (at_builtin; refine wpList_append_fits _ rfl _ _ 26 rfl w4.heap.size 29 i0 2 Try.underlying26 hi hz1 w4.heap.size k (n + 1) (valsOf (xs.take k)) rfl (HO6.out.alloc _) ⟨w6.heap.size, 0, none⟩ 1 1 f.vals rfl rfl (new_cells w6 f) (by intro u hu; exact vals_one [f] u (by simpa [valsOf] using hu)) (by omega) ?_; intro w7 hown7 hg7)
            have HO7 : Hid (w7.ownsRow w4.heap.size 29 2 (.slice (some ⟨w4.heap.size, 0, none⟩) (k + 1) (n + 1)) (k + 1) (valsOf (xs.take k ++ [f]))) := by
              show World.ownsRow _ _ _ _ _ _ _
              rw [valsOf_append]
              simpa [valsOf] using hown7
            have HL7 : Hid (Below w4.heap.size w4 w7) := (HL6.out.alloc HL6.out.size _).grown hg7 (by have := HL6.out.size; simp; omega) (fun q hq => by cases hq; exact Nat.le_refl _)
            clear hown7 hg7 HO6 c0 c1
            by_cases hkn2 : k = n
            · subst hkn2
              have HLW : Hid (Below w4.heap.size w4 w7) := HL7.out
              have AINS : Hid (ArgF w7 w7.heap.size (some ⟨w4.heap.size, 0, none⟩) ((xs.take k ++ [f]) ++ xs.drop k)) := by
                have e : xs.drop k = [] := List.drop_eq_nil_of_le (by rw [← HN.out]; exact Nat.le_refl _)
                show ArgF _ _ _ _
                rw [e, List.append_nil]
                exact arg_of_owns HO7.out (by rw [List.length_append, List.length_take, ← HN.out]; simp)
              have APRE : Hid (ArgF w7 w7.heap.size (some ⟨w2.heap.size, 0, none⟩) (xs.take k)) := .inr ⟨_, 0, rfl, Nat.lt_of_lt_of_le hm4 HLW.out.size, holds_take (HH4.out.below HLW.out hm4) k⟩
              have A1 : Hid (ArgF w7 w7.heap.size (some ⟨w2.heap.size, 0, none⟩) xs) := .inr ⟨_, 0, rfl, Nat.lt_of_lt_of_le hm4 HLW.out.size, HH4.out.below HLW.out hm4⟩
              have HXW : Hid (Bf w f w7) := HX4.out.next (HLW.out.mono HX4.out.lt)
              obtain ⟨⟨sp, okp⟩, hgp⟩ : ∃ g, g = get tag (xs.take k) := ⟨_, rfl⟩
              obtain ⟨⟨s0, ok0⟩, hg0⟩ : ∃ g, g = get tag xs := ⟨_, rfl⟩
              have eI := get_ins tag xs f k
              have eS := get_split tag xs k
              rw [← hgp] at eI eS
              have hlp : k = (xs.take k).length := by rw [List.length_take, ← HN.out]; omega
              have hli : k + 1 = ((xs.take k ++ [f]) ++ xs.drop k).length := by
                rw [List.length_append, List.length_append, List.length_take, List.length_drop, ← HN.out]
                simp <;> omega
              have G2 : Hid (Gets (some ⟨w2.heap.size, 0, none⟩) k k tag sp okp (xs.take k)) := gets (by omega) hlp hgp.symm
              cases okp
              · by_cases ht : f.t = tag
                · obtain rfl : tag = f.t := ht.symm
                  have G1 : Hid (Gets (some ⟨w2.heap.size, 0, none⟩) k k f.t s0 ok0 xs) := gets (by omega) HN.out hg0.symm
                  have G3 : Hid (Gets (some ⟨w4.heap.size, 0, none⟩) (k + 1) (k + 1) f.t f.v true ((xs.take k ++ [f]) ++ xs.drop k)) := gets (by omega) hli (by rw [eI]; simp)
                  clear eI eS hgp hg0 hlp hli hlt hld
                  cases ok0
                  · skip
                    go_wp2_with fail
                    refine (G1.out _ A1.out).mono ?_
                    rintro e v1 ⟨rfl, k1⟩
                    have A2 : Hid (ArgF v1 v1.heap.size (some ⟨w2.heap.size, 0, none⟩) (xs.take k)) := (APRE.out.below k1).mono k1.size
                    go_wp2_with fail
                    refine (G2.out _ A2.out).mono ?_
                    rintro e v2 ⟨rfl, k2⟩
                    have j2 := k1.trans (k2.mono k1.size)
                    have A3 : Hid (ArgF v2 v2.heap.size (some ⟨w4.heap.size, 0, none⟩) ((xs.take k ++ [f]) ++ xs.drop k)) := (AINS.out.below j2).mono j2.size
                    have HXv : Hid (Bf w f v2) := HXW.out.next (j2.mono HXW.out.lt)
                    have c0 := HXv.out.c0
                    have c1 := HXv.out.c1
                    go_wp2_with fail
                    refine (G3.out _ A3.out).mono ?_
                    rintro e v3 ⟨rfl, k3⟩
                    go_wp2_with fail
                    go_ret
                    exact ⟨rfl, (HXv.out.next (k3.mono HXv.out.lt)).below⟩

                  · skip
                    go_wp2_with fail
                    refine (G1.out _ A1.out).mono ?_
                    rintro e v1 ⟨rfl, k1⟩
                    have A2 : Hid (ArgF v1 v1.heap.size (some ⟨w2.heap.size, 0, none⟩) (xs.take k)) := (APRE.out.below k1).mono k1.size
                    go_wp2_with fail
                    refine (G2.out _ A2.out).mono ?_
                    rintro e v2 ⟨rfl, k2⟩
                    have j2 := k1.trans (k2.mono k1.size)
                    have A3 : Hid (ArgF v2 v2.heap.size (some ⟨w4.heap.size, 0, none⟩) ((xs.take k ++ [f]) ++ xs.drop k)) := (AINS.out.below j2).mono j2.size
                    have HXv : Hid (Bf w f v2) := HXW.out.next (j2.mono HXW.out.lt)
                    have c0 := HXv.out.c0
                    have c1 := HXv.out.c1
                    go_wp2_with fail
                    refine (G3.out _ A3.out).mono ?_
                    rintro e v3 ⟨rfl, k3⟩
                    go_wp2_with fail
                    go_ret
                    exact ⟨rfl, (HXv.out.next (k3.mono HXv.out.lt)).below⟩

                · have e2 : get tag xs = get tag (xs.drop k) := by rw [eS]; rfl
                  have G1 : Hid (Gets (some ⟨w2.heap.size, 0, none⟩) k k tag s0 ok0 xs) := gets (by omega) HN.out hg0.symm
                  have G3 : Hid (Gets (some ⟨w4.heap.size, 0, none⟩) (k + 1) (k + 1) tag s0 ok0 ((xs.take k ++ [f]) ++ xs.drop k)) := gets (by omega) hli (by rw [eI, hg0, e2]; simp [ht])
                  clear eI eS hgp hg0 hlp hli hlt hld e2
                  cases ok0
                  · skip
                    go_wp2_with fail
                    refine (G1.out _ A1.out).mono ?_
                    rintro e v1 ⟨rfl, k1⟩
                    have A2 : Hid (ArgF v1 v1.heap.size (some ⟨w2.heap.size, 0, none⟩) (xs.take k)) := (APRE.out.below k1).mono k1.size
                    go_wp2_with fail
                    refine (G2.out _ A2.out).mono ?_
                    rintro e v2 ⟨rfl, k2⟩
                    have j2 := k1.trans (k2.mono k1.size)
                    have A3 : Hid (ArgF v2 v2.heap.size (some ⟨w4.heap.size, 0, none⟩) ((xs.take k ++ [f]) ++ xs.drop k)) := (AINS.out.below j2).mono j2.size
                    have HXv : Hid (Bf w f v2) := HXW.out.next (j2.mono HXW.out.lt)
                    have c0 := HXv.out.c0
                    have c1 := HXv.out.c1
                    go_wp2_with fail
                    refine (G3.out _ A3.out).mono ?_
                    rintro e v3 ⟨rfl, k3⟩
                    go_wp2_with fail
                    go_ret
                    exact ⟨rfl, (HXv.out.next (k3.mono HXv.out.lt)).below⟩

                  · skip
                    go_wp2_with fail
                    refine (G1.out _ A1.out).mono ?_
                    rintro e v1 ⟨rfl, k1⟩
                    have A2 : Hid (ArgF v1 v1.heap.size (some ⟨w2.heap.size, 0, none⟩) (xs.take k)) := (APRE.out.below k1).mono k1.size
                    go_wp2_with fail
                    refine (G2.out _ A2.out).mono ?_
                    rintro e v2 ⟨rfl, k2⟩
                    have j2 := k1.trans (k2.mono k1.size)
                    have A3 : Hid (ArgF v2 v2.heap.size (some ⟨w4.heap.size, 0, none⟩) ((xs.take k ++ [f]) ++ xs.drop k)) := (AINS.out.below j2).mono j2.size
                    have HXv : Hid (Bf w f v2) := HXW.out.next (j2.mono HXW.out.lt)
                    have c0 := HXv.out.c0
                    have c1 := HXv.out.c1
                    go_wp2_with fail
                    refine (G3.out _ A3.out).mono ?_
                    rintro e v3 ⟨rfl, k3⟩
                    go_wp2_with fail
                    go_ret
                    exact ⟨rfl, (HXv.out.next (k3.mono HXv.out.lt)).below⟩

              · have e2 : get tag xs = (sp, true) := by rw [eS]; rfl
                have G1 : Hid (Gets (some ⟨w2.heap.size, 0, none⟩) k k tag sp true xs) := gets (by omega) HN.out e2
                have G3 : Hid (Gets (some ⟨w4.heap.size, 0, none⟩) (k + 1) (k + 1) tag sp true ((xs.take k ++ [f]) ++ xs.drop k)) := gets (by omega) hli (by rw [eI]; rfl)
                clear eI eS hgp hg0 hlp hli hlt hld e2
                by_cases ht : f.t = tag
                · obtain rfl : tag = f.t := ht.symm
                  go_wp2_with fail
                  refine (G1.out _ A1.out).mono ?_
                  rintro e v1 ⟨rfl, k1⟩
                  have A2 : Hid (ArgF v1 v1.heap.size (some ⟨w2.heap.size, 0, none⟩) (xs.take k)) := (APRE.out.below k1).mono k1.size
                  go_wp2_with fail
                  refine (G2.out _ A2.out).mono ?_
                  rintro e v2 ⟨rfl, k2⟩
                  have j2 := k1.trans (k2.mono k1.size)
                  have A3 : Hid (ArgF v2 v2.heap.size (some ⟨w4.heap.size, 0, none⟩) ((xs.take k ++ [f]) ++ xs.drop k)) := (AINS.out.below j2).mono j2.size
                  have HXv : Hid (Bf w f v2) := HXW.out.next (j2.mono HXW.out.lt)
                  have c0 := HXv.out.c0
                  have c1 := HXv.out.c1
                  go_wp2_with fail
                  refine (G3.out _ A3.out).mono ?_
                  rintro e v3 ⟨rfl, k3⟩
                  go_wp2_with fail
                  go_ret
                  exact ⟨rfl, (HXv.out.next (k3.mono HXv.out.lt)).below⟩

                · skip
                  go_wp2_with fail
                  refine (G1.out _ A1.out).mono ?_
                  rintro e v1 ⟨rfl, k1⟩
                  have A2 : Hid (ArgF v1 v1.heap.size (some ⟨w2.heap.size, 0, none⟩) (xs.take k)) := (APRE.out.below k1).mono k1.size
                  go_wp2_with fail
                  refine (G2.out _ A2.out).mono ?_
                  rintro e v2 ⟨rfl, k2⟩
                  have j2 := k1.trans (k2.mono k1.size)
                  have A3 : Hid (ArgF v2 v2.heap.size (some ⟨w4.heap.size, 0, none⟩) ((xs.take k ++ [f]) ++ xs.drop k)) := (AINS.out.below j2).mono j2.size
                  have HXv : Hid (Bf w f v2) := HXW.out.next (j2.mono HXW.out.lt)
                  have c0 := HXv.out.c0
                  have c1 := HXv.out.c1
                  go_wp2_with fail
                  refine (G3.out _ A3.out).mono ?_
                  rintro e v3 ⟨rfl, k3⟩
                  go_wp2_with fail
                  go_ret
                  exact ⟨rfl, (HXv.out.next (k3.mono HXv.out.lt)).below⟩

            · go_upto_region 17 with (at_builtin; refine wpList_append_fits _ rfl _ _ 26 rfl w4.heap.size 29 i0 2 Try.underlying26 hi hz1 w4.heap.size (k + 1) (n + 1) (valsOf (xs.take k ++ [f])) rfl HO7.out ⟨w2.heap.size, k * 2, none⟩ (n - k) (n - k) (valsOf (xs.drop k)) rfl hld (by have h := (holds_drop (HH4.out.below HL7.out hm4) k).src; rwa [Nat.zero_add] at h) (vals_one _) (by omega) ?_; intro w8 hown8 hg8)
              have HO8 : Hid (w8.ownsRow w4.heap.size 29 2 (.slice (some ⟨w4.heap.size, 0, none⟩) (k + 1 + (n - k)) (n + 1)) (k + 1 + (n - k)) (valsOf ((xs.take k ++ [f]) ++ xs.drop k))) := by
                show World.ownsRow _ _ _ _ _ _ _
                rw [valsOf_append]
                exact hown8
              have HLW : Hid (Below w4.heap.size w4 w8) := HL7.out.grown hg8 HL7.out.size (fun q hq => by cases hq; exact Nat.le_refl _)
              clear hown8 hg8 HO7
              have AINS : Hid (ArgF w8 w8.heap.size (some ⟨w4.heap.size, 0, none⟩) ((xs.take k ++ [f]) ++ xs.drop k)) := arg_of_owns HO8.out (by rw [List.length_append, List.length_append, List.length_take, List.length_drop, ← HN.out]; simp; omega)
              have APRE : Hid (ArgF w8 w8.heap.size (some ⟨w2.heap.size, 0, none⟩) (xs.take k)) := .inr ⟨_, 0, rfl, Nat.lt_of_lt_of_le hm4 HLW.out.size, holds_take (HH4.out.below HLW.out hm4) k⟩
              have A1 : Hid (ArgF w8 w8.heap.size (some ⟨w2.heap.size, 0, none⟩) xs) := .inr ⟨_, 0, rfl, Nat.lt_of_lt_of_le hm4 HLW.out.size, HH4.out.below HLW.out hm4⟩
              have HXW : Hid (Bf w f w8) := HX4.out.next (HLW.out.mono HX4.out.lt)
              obtain ⟨⟨sp, okp⟩, hgp⟩ : ∃ g, g = get tag (xs.take k) := ⟨_, rfl⟩
              obtain ⟨⟨s0, ok0⟩, hg0⟩ : ∃ g, g = get tag xs := ⟨_, rfl⟩
              have eI := get_ins tag xs f k
              have eS := get_split tag xs k
              rw [← hgp] at eI eS
              have hlp : k = (xs.take k).length := by rw [List.length_take, ← HN.out]; omega
              have hli : k + 1 + (n - k) = ((xs.take k ++ [f]) ++ xs.drop k).length := by
                rw [List.length_append, List.length_append, List.length_take, List.length_drop, ← HN.out]
                simp <;> omega
              have G2 : Hid (Gets (some ⟨w2.heap.size, 0, none⟩) k n tag sp okp (xs.take k)) := gets (by omega) hlp hgp.symm
              cases okp
              · by_cases ht : f.t = tag
                · obtain rfl : tag = f.t := ht.symm
                  have G1 : Hid (Gets (some ⟨w2.heap.size, 0, none⟩) n n f.t s0 ok0 xs) := gets (by omega) HN.out hg0.symm
                  have G3 : Hid (Gets (some ⟨w4.heap.size, 0, none⟩) (k + 1 + (n - k)) (n + 1) f.t f.v true ((xs.take k ++ [f]) ++ xs.drop k)) := gets (by omega) hli (by rw [eI]; simp)
                  clear eI eS hgp hg0 hlp hli hlt hld
                  cases ok0
                  · skip
                    go_wp2_with fail
                    refine (G1.out _ A1.out).mono ?_
                    rintro e v1 ⟨rfl, k1⟩
                    have A2 : Hid (ArgF v1 v1.heap.size (some ⟨w2.heap.size, 0, none⟩) (xs.take k)) := (APRE.out.below k1).mono k1.size
                    go_wp2_with fail
                    refine (G2.out _ A2.out).mono ?_
                    rintro e v2 ⟨rfl, k2⟩
                    have j2 := k1.trans (k2.mono k1.size)
                    have A3 : Hid (ArgF v2 v2.heap.size (some ⟨w4.heap.size, 0, none⟩) ((xs.take k ++ [f]) ++ xs.drop k)) := (AINS.out.below j2).mono j2.size
                    have HXv : Hid (Bf w f v2) := HXW.out.next (j2.mono HXW.out.lt)
                    have c0 := HXv.out.c0
                    have c1 := HXv.out.c1
                    go_wp2_with fail
                    refine (G3.out _ A3.out).mono ?_
                    rintro e v3 ⟨rfl, k3⟩
                    go_wp2_with fail
                    go_ret
                    exact ⟨rfl, (HXv.out.next (k3.mono HXv.out.lt)).below⟩

                  · skip
                    go_wp2_with fail
                    refine (G1.out _ A1.out).mono ?_
                    rintro e v1 ⟨rfl, k1⟩
                    have A2 : Hid (ArgF v1 v1.heap.size (some ⟨w2.heap.size, 0, none⟩) (xs.take k)) := (APRE.out.below k1).mono k1.size
                    go_wp2_with fail
                    refine (G2.out _ A2.out).mono ?_
                    rintro e v2 ⟨rfl, k2⟩
                    have j2 := k1.trans (k2.mono k1.size)
                    have A3 : Hid (ArgF v2 v2.heap.size (some ⟨w4.heap.size, 0, none⟩) ((xs.take k ++ [f]) ++ xs.drop k)) := (AINS.out.below j2).mono j2.size
                    have HXv : Hid (Bf w f v2) := HXW.out.next (j2.mono HXW.out.lt)
                    have c0 := HXv.out.c0
                    have c1 := HXv.out.c1
                    go_wp2_with fail
                    refine (G3.out _ A3.out).mono ?_
                    rintro e v3 ⟨rfl, k3⟩
                    go_wp2_with fail
                    go_ret
                    exact ⟨rfl, (HXv.out.next (k3.mono HXv.out.lt)).below⟩

                · have e2 : get tag xs = get tag (xs.drop k) := by rw [eS]; rfl
                  have G1 : Hid (Gets (some ⟨w2.heap.size, 0, none⟩) n n tag s0 ok0 xs) := gets (by omega) HN.out hg0.symm
                  have G3 : Hid (Gets (some ⟨w4.heap.size, 0, none⟩) (k + 1 + (n - k)) (n + 1) tag s0 ok0 ((xs.take k ++ [f]) ++ xs.drop k)) := gets (by omega) hli (by rw [eI, hg0, e2]; simp [ht])
                  clear eI eS hgp hg0 hlp hli hlt hld e2
                  cases ok0
                  · skip
                    go_wp2_with fail
                    refine (G1.out _ A1.out).mono ?_
                    rintro e v1 ⟨rfl, k1⟩
                    have A2 : Hid (ArgF v1 v1.heap.size (some ⟨w2.heap.size, 0, none⟩) (xs.take k)) := (APRE.out.below k1).mono k1.size
                    go_wp2_with fail
                    refine (G2.out _ A2.out).mono ?_
                    rintro e v2 ⟨rfl, k2⟩
                    have j2 := k1.trans (k2.mono k1.size)
                    have A3 : Hid (ArgF v2 v2.heap.size (some ⟨w4.heap.size, 0, none⟩) ((xs.take k ++ [f]) ++ xs.drop k)) := (AINS.out.below j2).mono j2.size
                    have HXv : Hid (Bf w f v2) := HXW.out.next (j2.mono HXW.out.lt)
                    have c0 := HXv.out.c0
                    have c1 := HXv.out.c1
                    go_wp2_with fail
                    refine (G3.out _ A3.out).mono ?_
                    rintro e v3 ⟨rfl, k3⟩
                    go_wp2_with fail
                    go_ret
                    exact ⟨rfl, (HXv.out.next (k3.mono HXv.out.lt)).below⟩

                  · skip
                    go_wp2_with fail
                    refine (G1.out _ A1.out).mono ?_
                    rintro e v1 ⟨rfl, k1⟩
                    have A2 : Hid (ArgF v1 v1.heap.size (some ⟨w2.heap.size, 0, none⟩) (xs.take k)) := (APRE.out.below k1).mono k1.size
                    go_wp2_with fail
                    refine (G2.out _ A2.out).mono ?_
                    rintro e v2 ⟨rfl, k2⟩
                    have j2 := k1.trans (k2.mono k1.size)
                    have A3 : Hid (ArgF v2 v2.heap.size (some ⟨w4.heap.size, 0, none⟩) ((xs.take k ++ [f]) ++ xs.drop k)) := (AINS.out.below j2).mono j2.size
                    have HXv : Hid (Bf w f v2) := HXW.out.next (j2.mono HXW.out.lt)
                    have c0 := HXv.out.c0
                    have c1 := HXv.out.c1
                    go_wp2_with fail
                    refine (G3.out _ A3.out).mono ?_
                    rintro e v3 ⟨rfl, k3⟩
                    go_wp2_with fail
                    go_ret
                    exact ⟨rfl, (HXv.out.next (k3.mono HXv.out.lt)).below⟩

              · have e2 : get tag xs = (sp, true) := by rw [eS]; rfl
                have G1 : Hid (Gets (some ⟨w2.heap.size, 0, none⟩) n n tag sp true xs) := gets (by omega) HN.out e2
                have G3 : Hid (Gets (some ⟨w4.heap.size, 0, none⟩) (k + 1 + (n - k)) (n + 1) tag sp true ((xs.take k ++ [f]) ++ xs.drop k)) := gets (by omega) hli (by rw [eI]; rfl)
                clear eI eS hgp hg0 hlp hli hlt hld e2
                by_cases ht : f.t = tag
                · obtain rfl : tag = f.t := ht.symm
                  go_wp2_with fail
                  refine (G1.out _ A1.out).mono ?_
                  rintro e v1 ⟨rfl, k1⟩
                  have A2 : Hid (ArgF v1 v1.heap.size (some ⟨w2.heap.size, 0, none⟩) (xs.take k)) := (APRE.out.below k1).mono k1.size
                  go_wp2_with fail
                  refine (G2.out _ A2.out).mono ?_
                  rintro e v2 ⟨rfl, k2⟩
                  have j2 := k1.trans (k2.mono k1.size)
                  have A3 : Hid (ArgF v2 v2.heap.size (some ⟨w4.heap.size, 0, none⟩) ((xs.take k ++ [f]) ++ xs.drop k)) := (AINS.out.below j2).mono j2.size
                  have HXv : Hid (Bf w f v2) := HXW.out.next (j2.mono HXW.out.lt)
                  have c0 := HXv.out.c0
                  have c1 := HXv.out.c1
                  go_wp2_with fail
                  refine (G3.out _ A3.out).mono ?_
                  rintro e v3 ⟨rfl, k3⟩
                  go_wp2_with fail
                  go_ret
                  exact ⟨rfl, (HXv.out.next (k3.mono HXv.out.lt)).below⟩

                · skip
                  go_wp2_with fail
                  refine (G1.out _ A1.out).mono ?_
                  rintro e v1 ⟨rfl, k1⟩
                  have A2 : Hid (ArgF v1 v1.heap.size (some ⟨w2.heap.size, 0, none⟩) (xs.take k)) := (APRE.out.below k1).mono k1.size
                  go_wp2_with fail
                  refine (G2.out _ A2.out).mono ?_
                  rintro e v2 ⟨rfl, k2⟩
                  have j2 := k1.trans (k2.mono k1.size)
                  have A3 : Hid (ArgF v2 v2.heap.size (some ⟨w4.heap.size, 0, none⟩) ((xs.take k ++ [f]) ++ xs.drop k)) := (AINS.out.below j2).mono j2.size
                  have HXv : Hid (Bf w f v2) := HXW.out.next (j2.mono HXW.out.lt)
                  have c0 := HXv.out.c0
                  have c1 := HXv.out.c1
                  go_wp2_with fail
                  refine (G3.out _ A3.out).mono ?_
                  rintro e v3 ⟨rfl, k3⟩
                  go_wp2_with fail
                  go_ret
                  exact ⟨rfl, (HXv.out.next (k3.mono HXv.out.lt)).below⟩

          · go_wp2_with fail
            all_goals
              go_ret
              exact ⟨rfl, HX1.out.below⟩
        · go_wp2_with fail
          go_ret
          exact ⟨rfl, HX1.out.below⟩
      · go_wp2_with fail
        go_ret
        exact ⟨rfl, HX1.out.below⟩
    · go_wp2_with fail
      go_ret
      exact ⟨rfl, HX1.out.below⟩
end Go.Proofs.Qxb6628755a
