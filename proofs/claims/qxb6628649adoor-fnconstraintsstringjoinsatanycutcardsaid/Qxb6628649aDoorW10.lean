import Derived.Test.Qxb6628649aDoorW9
import Derived.Test.Qxb6628649aDoorPlain2
namespace Go.Proofs.Qxb6628649aDoor
open Go.RowKit

theorem buildNil_any (xs : List Cnd) (ao : Option Addr) (ca n : Nat) (w : World) (hn : n ≤ 1048576) (HN : Hid (n = xs.length)) (HA : Hid (ArgC w ao xs)) :
    Calls Tryd.prog 7 #[.slice ao n ca, .slice none 0 0] w (Built xs n w) := by
  have := build_any xs [] ao none ca 0 n 0 w hn HN rfl HA (.inl rfl)
  rwa [List.append_nil, Nat.add_zero] at this

/-- The text of a built list. -/
theorem text_any (cs : List Cnd) (X : ByteArray) (hX : consB cs = X) (n b cap : Nat) (hcn : n = cs.length) (w : World) (hn : n ≤ 1048576) (hb : b < w.heap.size) (hC : HoldsC w b 0 cs) (hok : ∀ c ∈ cs, c.Ok) (htab : Tab w) :
    Calls Tryd.prog 8 #[.slice (some ⟨b, 0, none⟩) n cap] w fun e w' => e = .returned (.string X) ∧ Below w.heap.size w w' := by
  subst hcn
  rw [← hX]
  exact consS_any cs b 0 cap w hn hb hC hok htab

theorem pre_any (s p : ByteArray) (w : World) (hs : s.size ≤ 9223372036854775807) (h : ∃ z, s = p ++ z) :
    Calls Tryd.prog 10 #[.string s, .string p] w fun e w' => e = .returned (.bool true) ∧ Below w.heap.size w w' := by
  obtain ⟨z, rfl⟩ := h
  exact prefix_any _ _ w hs (append_pre p z).1 (append_pre p z).2

theorem cbytes_any (cs : List Cnd) (n : Nat) (hcn : n = cs.length) (ao : Option Addr) (cap : Nat) (start : Int) (w : World) (hn : n ≤ 1048576) (hA : ArgC w ao cs) (hok : ∀ c ∈ cs, c.Ok) :
    Calls Tryd.prog 6 #[.slice ao n cap, .int .i64 start] w fun e w' => (∃ t, e = .returned (.int .i64 t)) ∧ Below w.heap.size w w' := by
  subst hcn
  exact condBytes_any cs ao cap start w hn hA fun c hc => ⟨(hok c hc).o1, (hok c hc).p1⟩

/-- What the three texts are to one another. -/
structure Texts (xs ys : List Cnd) (SA SB SAB : ByteArray) : Prop where
  a : consB xs = SA
  b : consB ys = SB
  ab : consB (xs ++ ys) = SAB

set_option maxHeartbeats 2000000 in
set_option maxRecDepth 100000 in
theorem joins_core (xs ys : List Cnd) (SA SB SAB : ByteArray) (ao bo : Option Addr) (ca cb n m : Nat) (w : World) (hnm : n + m ≤ 1048576) (HN : Hid (n = xs.length)) (HM : Hid (m = ys.length)) (HA : Hid (ArgC w ao xs)) (HB : Hid (ArgC w bo ys))
    (HT : Hid (Texts xs ys SA SB SAB)) (HOA : Hid (∀ c ∈ xs, c.Ok)) (HOB : Hid (∀ c ∈ ys, c.Ok)) (htab : Hid (Tab w))
    (HL : Hid (Calls Tryd.prog 5 #[.slice ao n ca, .slice bo m cb] w fun e w' => (∃ r, e = .returned (.bool r)) ∧ w' = w))
    (sA : SA.size ≤ 140737488355328) (sB : SB.size ≤ 140737488355328) (sAB : SAB.size ≤ 140737488355328) 
    (k1 : n = 0 → SAB = SB) (k2 : m = 0 → SAB = SA) (k3 : n ≠ 0 → m ≠ 0 → SAB = SA ++ ⟨#[44, 32]⟩ ++ SB) (k4 : n = 0 → m = 0 → SAB = ⟨#[]⟩)
    (KE : Hid (∀ c, (xs ++ ys)[0]? = some c → (c.op.toList == [61]) = true → ∃ z, SAB = itoaB c.ma ++ z)) (KO : Hid (∀ c, (xs ++ ys)[0]? = some c → (c.op.toList == [61]) = false → ∃ z, SAB = c.op ++ ⟨#[32]⟩ ++ itoaB c.ma ++ z)) :
    Calls Tryd.prog 3 #[.slice ao n ca, .slice bo m cb] w fun e w' => e = .returned (.bool true) ∧ Below w.heap.size w w' := by
  have K1 : Hid (n = 0 → SAB = SB) := k1
  have K2 : Hid (m = 0 → SAB = SA) := k2
  have K3 : Hid (n ≠ 0 → m ≠ 0 → SAB = SA ++ ⟨#[44, 32]⟩ ++ SB) := k3
  have K4 : Hid (n = 0 → m = 0 → SAB = ⟨#[]⟩) := k4
  clear k1 k2 k3 k4
  go_enter Tryd.func3, Tryd.ntmps3
  go_wp2_with fail
  refine HL.out.mono ?_
  rintro e w0 ⟨⟨r, rfl⟩, rfl⟩
  clear HL
  cases r
  · go_wp2_with fail
    go_ret
    exact ⟨rfl, Below.refl _ _⟩
  go_wp2_with fail
  refine (cbytes_any xs n HN.out ao ca 0 _ (by omega) HA.out HOA.out).mono ?_
  rintro e w1 ⟨⟨t, rfl⟩, B1⟩
  by_cases ht : 1048576 < t
  · go_wp2_with fail
    go_ret
    exact ⟨rfl, B1⟩
  go_wp2_with fail
  have z1 := B1.size
  refine (cbytes_any ys m HM.out bo cb t _ (by omega) (HB.out.below B1) HOB.out).mono ?_
  rintro e w2 ⟨⟨t2, rfl⟩, B2⟩
  have z2 := B2.size
  have D2 : Below w0.heap.size w0 w2 := B1.trans (B2.mono (by omega))
  clear B1 B2
  by_cases ht2 : 1048576 < t2
  · go_wp2_with fail
    go_ret
    exact ⟨rfl, D2⟩
  go_wp2_with fail
  refine (buildNil_any xs ao ca n w2 (by omega) HN (HA.out.below D2)).mono ?_
  rintro e w3 ⟨g1, c1, rfl, l1, H1, B3⟩
  have z3 := B3.size
  have D3 : Below w0.heap.size w0 w3 := D2.trans (B3.mono (by omega))
  clear B3 D2
  go_wp2_with fail
  refine (buildNil_any ys bo cb m w3 (by omega) HM (HB.out.below D3)).mono ?_
  rintro e w4 ⟨g2, c2, rfl, l2, H2, B4⟩
  have z4 := B4.size
  have D4 : Below w0.heap.size w0 w4 := D3.trans (B4.mono (by omega))
  clear D3
  go_wp2_with fail
  refine (build_any xs ys ao bo ca cb n m w4 hnm HN HM (HA.out.below D4) (HB.out.below D4)).mono ?_
  rintro e w5 ⟨g3, c3, rfl, l3, H3, B5⟩
  have z5 := B5.size
  have D5 : Below w0.heap.size w0 w5 := D4.trans (B5.mono (by omega))
  have T5 := htab.out.belowSize D5
  go_wp2_with fail
  refine (text_any xs SA HT.out.a n g1 c1 HN.out w5 (by omega) (by omega) (H1.below (B4.trans (B5.mono (by omega))) (by omega)) HOA.out T5).mono ?_
  rintro e w6 ⟨rfl, B6⟩
  have z6 := B6.size
  have D6 : Below w0.heap.size w0 w6 := D5.trans (B6.mono (by omega))
  go_wp2_with fail
  refine (text_any ys SB HT.out.b m g2 c2 HM.out w6 (by omega) (by omega) (H2.below (B5.trans (B6.mono (by omega))) (by omega)) HOB.out (T5.belowSize B6)).mono ?_
  rintro e w7 ⟨rfl, B7⟩
  have z7 := B7.size
  have D7 : Below w0.heap.size w0 w7 := D6.trans (B7.mono (by omega))
  go_wp2_with fail
  refine (text_any (xs ++ ys) SAB HT.out.ab (n + m) g3 c3 (by rw [List.length_append, HN.out, HM.out]) w7 hnm (by omega) (H3.below (B6.trans (B7.mono (by omega))) (by omega)) (fun c hc => (List.mem_append.1 hc).elim (HOA.out c) (HOB.out c)) (htab.out.belowSize D7)).mono ?_
  rintro e w8 ⟨rfl, B8⟩
  have z8 := B8.size
  have D8 : Below w0.heap.size w0 w8 := D7.trans (B8.mono (by omega))
  clear B4 B5 B6 B7 B8 D4 D5 D6 D7 H1 H2 H3 T5
  by_cases hn0 : n = 0
  · have e1 := K1.out hn0
    by_cases hm0 : m = 0
    · have e4 := K4.out hn0 hm0
      clear K1 K2 K3 K4
      subst e1
      subst e4
      subst hn0
      subst hm0
      go_wp2_with fail
      go_ret
      exact ⟨rfl, D8⟩
    · clear K1 K2 K3 K4
      subst e1
      subst hn0
      have hmb : ((m : Int) == 0) = false := by simpa using hm0
      obtain ⟨b, o, c, hck, rfl, hb, hC⟩ := (HB.out.below D8).at (k := 0) (by rw [← HM.out]; omega)
      obtain ⟨q0, q1, q2, q3, q4, q5⟩ := hC 0 c hck
      simp only [Nat.zero_mul, Nat.add_zero] at q0 q1 q2 q3 q4 q5
      clear hC
      go_wp2_with fail
      clear q0 q1 q2 q3 q4 q5
      have ok := HOB.out c (List.mem_of_getElem? hck)
      have hE := KE.out c (by rw [List.getElem?_append_right (by rw [← HN.out]; omega), ← HN.out]; exact hck)
      have hO := KO.out c (by rw [List.getElem?_append_right (by rw [← HN.out]; omega), ← HN.out]; exact hck)
      have HE : Hid ((c.op.toList == [61]) = true → ∃ z, SAB = itoaB c.ma ++ z) := hE
      have HO : Hid ((c.op.toList == [61]) = false → ∃ z, SAB = c.op ++ ⟨#[32]⟩ ++ itoaB c.ma ++ z) := hO
      have so := ok.o1
      have si := itoaB_size c.ma ok.a0 ok.a1
      clear hE hO KE KO hck
      refine (zitoa_any c.ma _ ok.a0 ok.a1).mono ?_
      rintro e w9 ⟨rfl, B9⟩
      have hc : ∀ j, w9.cell? ⟨w8.heap.size, j, none⟩ = _ := fun j => B9.cell (p := ⟨w8.heap.size, j, none⟩) (by simp)
      have D9 : Below w0.heap.size w0 w9 := (D8.alloc (by omega) _).trans (B9.mono (by simp; omega))
      have z9 := B9.size
      simp at z9
      cases hop : (c.op.toList == [61])
      · go_wp2_with fail
        refine (pre_any _ _ _ (by omega) (HO.out hop)).mono ?_
        rintro e w10 ⟨rfl, B10⟩
        go_wp2_with fail
        go_ret
        exact ⟨rfl, D9.trans (B10.mono (by omega))⟩
      · go_wp2_with fail
        refine (pre_any _ _ _ (by omega) (HE.out hop)).mono ?_
        rintro e w10 ⟨rfl, B10⟩
        go_wp2_with fail
        go_ret
        exact ⟨rfl, D9.trans (B10.mono (by omega))⟩
  · have hnb : ((n : Int) == 0) = false := by simpa using hn0
    by_cases hm0 : m = 0
    · have e2 := K2.out hm0
      clear K1 K2 K3 K4
      subst e2
      subst hm0
      obtain ⟨b, o, c, hck, rfl, hb, hC⟩ := (HA.out.below D8).at (k := 0) (by rw [← HN.out]; omega)
      obtain ⟨q0, q1, q2, q3, q4, q5⟩ := hC 0 c hck
      simp only [Nat.zero_mul, Nat.add_zero] at q0 q1 q2 q3 q4 q5
      clear hC
      go_wp2_with fail
      clear q0 q1 q2 q3 q4 q5
      have ok := HOA.out c (List.mem_of_getElem? hck)
      have hE := KE.out c (by rw [List.getElem?_append_left (by rw [← HN.out]; omega)]; exact hck)
      have hO := KO.out c (by rw [List.getElem?_append_left (by rw [← HN.out]; omega)]; exact hck)
      have HE : Hid ((c.op.toList == [61]) = true → ∃ z, SAB = itoaB c.ma ++ z) := hE
      have HO : Hid ((c.op.toList == [61]) = false → ∃ z, SAB = c.op ++ ⟨#[32]⟩ ++ itoaB c.ma ++ z) := hO
      have so := ok.o1
      have si := itoaB_size c.ma ok.a0 ok.a1
      clear hE hO KE KO hck
      refine (zitoa_any c.ma _ ok.a0 ok.a1).mono ?_
      rintro e w9 ⟨rfl, B9⟩
      have hc : ∀ j, w9.cell? ⟨w8.heap.size, j, none⟩ = _ := fun j => B9.cell (p := ⟨w8.heap.size, j, none⟩) (by simp)
      have D9 : Below w0.heap.size w0 w9 := (D8.alloc (by omega) _).trans (B9.mono (by simp; omega))
      have z9 := B9.size
      simp at z9
      cases hop : (c.op.toList == [61])
      · go_wp2_with fail
        refine (pre_any _ _ _ (by omega) (HO.out hop)).mono ?_
        rintro e w10 ⟨rfl, B10⟩
        go_wp2_with fail
        go_ret
        exact ⟨rfl, D9.trans (B10.mono (by omega))⟩
      · go_wp2_with fail
        refine (pre_any _ _ _ (by omega) (HE.out hop)).mono ?_
        rintro e w10 ⟨rfl, B10⟩
        go_wp2_with fail
        go_ret
        exact ⟨rfl, D9.trans (B10.mono (by omega))⟩
    · have hmb : ((m : Int) == 0) = false := by simpa using hm0
      have e3 := K3.out hn0 hm0
      clear K1 K2 K3 K4
      subst e3
      obtain ⟨b, o, c, hck, rfl, hb, hC⟩ := (HA.out.below D8).at (k := 0) (by rw [← HN.out]; omega)
      obtain ⟨q0, q1, q2, q3, q4, q5⟩ := hC 0 c hck
      simp only [Nat.zero_mul, Nat.add_zero] at q0 q1 q2 q3 q4 q5
      clear hC
      go_wp2_with fail
      clear q0 q1 q2 q3 q4 q5
      have ok := HOA.out c (List.mem_of_getElem? hck)
      have hE := KE.out c (by rw [List.getElem?_append_left (by rw [← HN.out]; omega)]; exact hck)
      have hO := KO.out c (by rw [List.getElem?_append_left (by rw [← HN.out]; omega)]; exact hck)
      have HE : Hid ((c.op.toList == [61]) = true → ∃ z, (SA ++ ⟨#[44, 32]⟩ ++ SB) = itoaB c.ma ++ z) := hE
      have HO : Hid ((c.op.toList == [61]) = false → ∃ z, (SA ++ ⟨#[44, 32]⟩ ++ SB) = c.op ++ ⟨#[32]⟩ ++ itoaB c.ma ++ z) := hO
      have so := ok.o1
      have si := itoaB_size c.ma ok.a0 ok.a1
      clear hE hO KE KO hck
      refine (zitoa_any c.ma _ ok.a0 ok.a1).mono ?_
      rintro e w9 ⟨rfl, B9⟩
      have hc : ∀ j, w9.cell? ⟨w8.heap.size, j, none⟩ = _ := fun j => B9.cell (p := ⟨w8.heap.size, j, none⟩) (by simp)
      have D9 : Below w0.heap.size w0 w9 := (D8.alloc (by omega) _).trans (B9.mono (by simp; omega))
      have z9 := B9.size
      simp at z9
      cases hop : (c.op.toList == [61])
      · go_wp2_with fail
        refine (pre_any _ _ _ (by omega) (HO.out hop)).mono ?_
        rintro e w10 ⟨rfl, B10⟩
        go_wp2_with fail
        go_ret
        exact ⟨rfl, D9.trans (B10.mono (by omega))⟩
      · go_wp2_with fail
        refine (pre_any _ _ _ (by omega) (HE.out hop)).mono ?_
        rintro e w10 ⟨rfl, B10⟩
        go_wp2_with fail
        go_ret
        exact ⟨rfl, D9.trans (B10.mono (by omega))⟩

set_option maxHeartbeats 400000 in
theorem joins_no (ao bo : Option Addr) (ca cb n m : Nat) (w : World)
    (HL : Hid (Calls Tryd.prog 5 #[.slice ao n ca, .slice bo m cb] w fun e w' => e = .returned (.bool false) ∧ w' = w)) :
    Calls Tryd.prog 3 #[.slice ao n ca, .slice bo m cb] w fun e w' => e = .returned (.bool true) ∧ Below w.heap.size w w' := by
  go_enter Tryd.func3, Tryd.ntmps3
  go_wp2_with fail
  refine HL.out.mono ?_
  rintro e w0 ⟨rfl, rfl⟩
  clear HL
  go_wp2_with fail
  go_ret
  exact ⟨rfl, Below.refl _ _⟩

/-- What is known of a condition that came in. -/
structure Cnd.In (c : Cnd) : Prop where
  a0 : -9223372036854775808 ≤ c.ma
  a1 : c.ma ≤ 9223372036854775807
  b0 : -9223372036854775808 ≤ c.mi
  b1 : c.mi ≤ 9223372036854775807
  c0 : -9223372036854775808 ≤ c.pa
  c1 : c.pa ≤ 9223372036854775807
  o1 : c.op.size ≤ maxLen
  p1 : c.pre.size ≤ maxLen

theorem joins_any (xs ys : List Cnd) (ao bo : Option Addr) (ca cb n m : Nat) (w : World) (hna : n ≤ maxLen) (hnb : m ≤ maxLen) (hN : n = xs.length) (hM : m = ys.length) (hA : ArgC w ao xs) (hB : ArgC w bo ys)
    (hx : ∀ c ∈ xs, c.In) (hy : ∀ c ∈ ys, c.In) (htab : Tab w) :
    Calls Tryd.prog 3 #[.slice ao n ca, .slice bo m cb] w fun e w' => e = .returned (.bool true) ∧ Below w.heap.size w w' := by
  have hg := lens_any xs ys ao bo ca cb n m w hna hnb hN hM hA hB (fun c hc => ⟨(hx c hc).o1, (hx c hc).p1⟩) (fun c hc => ⟨(hy c hc).o1, (hy c hc).p1⟩)
  by_cases hP : n + m ≤ 1048576 ∧ Short xs n ∧ Short ys m
  · obtain ⟨hnm, hsx, hsy⟩ := hP
    have okx : ∀ c ∈ xs, c.Ok := fun c hc => by
      have h := hx c hc
      have s := Short.all (by rw [← hN]; exact hsx) c hc
      exact ⟨h.a0, h.a1, h.b0, h.b1, h.c0, h.c1, s.1, s.2⟩
    have oky : ∀ c ∈ ys, c.Ok := fun c hc => by
      have h := hy c hc
      have s := Short.all (by rw [← hM]; exact hsy) c hc
      exact ⟨h.a0, h.a1, h.b0, h.b1, h.c0, h.c1, s.1, s.2⟩
    refine joins_core xs ys (consB xs) (consB ys) (consB (xs ++ ys)) ao bo ca cb n m w hnm hN hM hA hB ⟨rfl, rfl, rfl⟩ okx oky htab (hg.mono fun _ _ ⟨r, h1, _, h3⟩ => ⟨⟨r, h1⟩, h3⟩)
      (consB_size xs (by omega) okx) (consB_size ys (by omega) oky) (consB_size _ (by rw [List.length_append]; omega) (fun c hc => (List.mem_append.1 hc).elim (okx c) (oky c))) ?_ ?_ ?_ ?_ ?_ ?_
    · intro h
      have : xs = [] := List.eq_nil_of_length_eq_zero (by omega)
      rw [this, List.nil_append]
    · intro h
      have : ys = [] := List.eq_nil_of_length_eq_zero (by omega)
      rw [this, List.append_nil]
    · intro h1 h2
      match xs, ys, hN, hM with
      | c :: r, d :: t, _, _ => exact consB_append c d r t
      | [], _, hN, _ => exact absurd hN h1
      | _ :: _, [], _, hM => exact absurd hM h2
    · intro h1 h2
      have e1 : xs = [] := List.eq_nil_of_length_eq_zero (by omega)
      have e2 : ys = [] := List.eq_nil_of_length_eq_zero (by omega)
      rw [e1, e2]; exact consB_nil
    · intro c hc ho
      match h : xs ++ ys, hc with
      | d :: r, hc =>
        obtain rfl : d = c := Option.some.inj hc
        exact cons_head_eq d r ho
    · intro c hc ho
      match h : xs ++ ys, hc with
      | d :: r, hc =>
        obtain rfl : d = c := Option.some.inj hc
        exact cons_head_ne d r ho
  · exact joins_no ao bo ca cb n m w (hg.mono fun _ _ ⟨r, h1, h2, h3⟩ => by
      cases r
      · exact ⟨h1, h3⟩
      · exact absurd (h2 rfl) hP)

end Go.Proofs.Qxb6628649aDoor
