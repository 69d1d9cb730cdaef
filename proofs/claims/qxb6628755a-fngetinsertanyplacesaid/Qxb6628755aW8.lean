import Derived.Test.Qxb6628755aW7
namespace Go.Proofs.Qxb6628755a
open Go.RowKit

set_option maxRecDepth 20000 in
set_option maxHeartbeats 4000000 in
theorem law4_nil (ca : Nat) (i tag : Int) (f : F) (w : World) :
    Calls Try.prog 4 #[.slice none 0 ca, .int .i64 i, .agg #[.int .i64 f.t, .string f.v], .int .i64 tag] w fun e w' => e = .returned (.bool true) ∧ Below w.heap.size w w' := by
  obtain ⟨i0, hi, hz0, hz1, hz2⟩ := info_parts info29
  go_enter Try.func4, Try.ntmps4
  go_wp2_with fail
  refine (bytes9_any none ca 0 i tag f.t f.v [] _ (by omega) rfl (.inl rfl)).mono ?_
  rintro e w1 ⟨r, rfl, hB1⟩
  have HX1 : Hid (Bf w f w1) := by
    have h : Below (boxF w f).heap.size (boxF w f) w1 := hB1
    rw [boxF_size] at h
    exact h
  clear hB1
  cases r
  · go_wp2_with fail
    go_ret
    exact ⟨rfl, HX1.out.below⟩
  · have c0 := HX1.out.c0
    have c1 := HX1.out.c1
    go_wp2_with fail
    refine (fields_any none ca 0 [] w1 (by omega) rfl (.inl rfl)).mono ?_
    rintro e w2 ⟨ba, rfl, ba0, ba1, _, rfl⟩
    by_cases hba : ba ≤ 1048576
    · by_cases hv : f.v.size ≤ 1048576
      · by_cases hsum : ba + 24 + f.v.size ≤ 1048576
        · by_cases hin : i = 0
          · subst hin
            go_wp2_with fail
            refine (toMsg_nil ca _).mono ?_
            rintro e w4 ⟨rfl, rfl⟩
            go_upto_region 14 with (at_make; refine wpList_make_own _ rfl _ _ 26 rfl w4.heap.size 29 i0 _ 2 Try.underlying26 hi hz0 hz1 .i64 .i64 _ 1 rfl rfl rfl (by rw [hz2]; omega) (by unfold maxLen; omega) (Nat.le_refl _) ?_; intro w5 hown5 hg5)
            have HO5 : Hid (w5.ownsRow w4.heap.size 29 2 (.slice (some ⟨w4.heap.size, 0, none⟩) 0 1) 0 []) := hown5
            have HL5 : Hid (Below w4.heap.size w4 w5) := below_grown hg5 (Nat.le_refl _) (fun q hq => by cases hq)
            clear hown5 hg5 c0 c1
            go_upto_region 15 with (at_builtin; refine wpList_append_fits_any _ rfl _ _ 26 rfl w4.heap.size 29 i0 2 Try.underlying26 hi hz1 w4.heap.size 0 1 [] rfl HO5.out none 0 0 [] rfl rfl (fun _ => ⟨rfl, rfl⟩) (fun ad h => by cases h) (fun u hu => by cases hu) (by omega) ?_; intro w6 hown6 hg6)
            have HO6 : Hid (w6.ownsRow w4.heap.size 29 2 (.slice (some ⟨w4.heap.size, 0, none⟩) 0 1) 0 []) := by
              show World.ownsRow _ _ _ _ _ _ _
              simpa using hown6
            have HL6 : Hid (Below w4.heap.size w4 w6) := HL5.out.grown hg6 HL5.out.size (fun q hq => by cases hq; exact Nat.le_refl _)
            clear hown6 hg6 HO5
            have HX6 : Hid (Bf w f w6) := HX1.out.next (HL6.out.mono HX1.out.lt)
            have c0 := HX6.out.c0
            have c1 := HX6.out.c1
            go_upto_region 16 with (at_builtin; refine wpList_append_fits _ rfl _ _ 26 rfl w4.heap.size 29 i0 2 Try.underlying26 hi hz1 w4.heap.size 0 1 [] rfl (HO6.out.alloc _) ⟨w6.heap.size, 0, none⟩ 1 1 f.vals rfl rfl (new_cells w6 f) (by intro u hu; exact vals_one [f] u (by simpa [valsOf] using hu)) (by omega) ?_; intro w7 hown7 hg7)
            have HO7 : Hid (w7.ownsRow w4.heap.size 29 2 (.slice (some ⟨w4.heap.size, 0, none⟩) 1 1) 1 (valsOf [f])) := by
              show World.ownsRow _ _ _ _ _ _ _
              simpa [valsOf] using hown7
            have HL7 : Hid (Below w4.heap.size w4 w7) := (HL6.out.alloc HL6.out.size _).grown hg7 (by have := HL6.out.size; simp; omega) (fun q hq => by cases hq; exact Nat.le_refl _)
            clear hown7 hg7 HO6 c0 c1
            go_upto_region 17 with (at_builtin; refine wpList_append_fits_any _ rfl _ _ 26 rfl w4.heap.size 29 i0 2 Try.underlying26 hi hz1 w4.heap.size 1 1 (valsOf [f]) rfl HO7.out none 0 0 [] rfl rfl (fun _ => ⟨rfl, rfl⟩) (fun ad h => by cases h) (fun u hu => by cases hu) (by omega) ?_; intro w8 hown8 hg8)
            have HO8 : Hid (w8.ownsRow w4.heap.size 29 2 (.slice (some ⟨w4.heap.size, 0, none⟩) 1 1) 1 (valsOf [f])) := by
              show World.ownsRow _ _ _ _ _ _ _
              simpa using hown8
            have HLW : Hid (Below w4.heap.size w4 w8) := HL7.out.grown hg8 HL7.out.size (fun q hq => by cases hq; exact Nat.le_refl _)
            clear hown8 hg8 HO7
            have AINS : Hid (ArgF w8 w8.heap.size (some ⟨w4.heap.size, 0, none⟩) [f]) := arg_of_owns HO8.out rfl
            have HXW : Hid (Bf w f w8) := HX1.out.next (HLW.out.mono HX1.out.lt)
            have G1 : Hid (Gets none 0 0 tag ⟨#[]⟩ false []) := gets (by omega) rfl rfl
            by_cases ht : f.t = tag
            · obtain rfl : tag = f.t := ht.symm
              have G3 : Hid (Gets (some ⟨w4.heap.size, 0, none⟩) 1 1 f.t f.v true [f]) := gets (by omega) rfl (by simp [get])
              go_wp2_with fail
              refine (G1.out _ (.inl rfl)).mono ?_
              rintro e v1 ⟨rfl, k1⟩
              go_wp2_with fail
              refine (G1.out _ (.inl rfl)).mono ?_
              rintro e v2 ⟨rfl, k2⟩
              have j2 := k1.trans (k2.mono k1.size)
              have A3 : Hid (ArgF v2 v2.heap.size (some ⟨w4.heap.size, 0, none⟩) [f]) := (AINS.out.below j2).mono j2.size
              have HXv : Hid (Bf w f v2) := HXW.out.next (j2.mono HXW.out.lt)
              have c0 := HXv.out.c0
              have c1 := HXv.out.c1
              go_wp2_with fail
              refine (G3.out _ A3.out).mono ?_
              rintro e v3 ⟨rfl, k3⟩
              go_wp2_with fail
              go_ret
              exact ⟨rfl, (HXv.out.next (k3.mono HXv.out.lt)).below⟩
            · have G3 : Hid (Gets (some ⟨w4.heap.size, 0, none⟩) 1 1 tag ⟨#[]⟩ false [f]) := gets (by omega) rfl (by simp [get, ht])
              go_wp2_with fail
              refine (G1.out _ (.inl rfl)).mono ?_
              rintro e v1 ⟨rfl, k1⟩
              go_wp2_with fail
              refine (G1.out _ (.inl rfl)).mono ?_
              rintro e v2 ⟨rfl, k2⟩
              have j2 := k1.trans (k2.mono k1.size)
              have A3 : Hid (ArgF v2 v2.heap.size (some ⟨w4.heap.size, 0, none⟩) [f]) := (AINS.out.below j2).mono j2.size
              have HXv : Hid (Bf w f v2) := HXW.out.next (j2.mono HXW.out.lt)
              have c0 := HXv.out.c0
              have c1 := HXv.out.c1
              go_wp2_with fail
              refine (G3.out _ A3.out).mono ?_
              rintro e v3 ⟨rfl, k3⟩
              go_wp2_with fail
              go_ret
              exact ⟨rfl, (HXv.out.next (k3.mono HXv.out.lt)).below⟩
          · go_wp2_with fail
            all_goals
              go_ret
              exact ⟨rfl, HX1.out.below⟩
        · go_wp2_with fail
          go_ret
          exact ⟨rfl, HX1.out.below⟩
      · go_wp2_with fail
        go_ret
        exact ⟨rfl, HX1.out.below⟩
    · go_wp2_with fail
      go_ret
      exact ⟨rfl, HX1.out.below⟩

theorem law4_any (so : Option Addr) (ca n : Nat) (i tag : Int) (f : F) (xs : List F) (w : World) (hn : n ≤ 9223372036854775807) (hN : n = xs.length) (h0 : so = none → n = 0) (hA : ArgF w w.heap.size so xs) :
    Calls Try.prog 4 #[.slice so n ca, .int .i64 i, .agg #[.int .i64 f.t, .string f.v], .int .i64 tag] w fun e w' => e = .returned (.bool true) ∧ Below w.heap.size w w' := by
  cases so with
  | none =>
    have := h0 rfl
    subst this
    exact law4_nil ca i tag f w
  | some a => exact law4_some a ca n i tag f xs w hn hN hA
end Go.Proofs.Qxb6628755a
