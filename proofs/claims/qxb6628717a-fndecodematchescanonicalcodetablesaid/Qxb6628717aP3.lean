import Derived.Test.Qxb6628717aRows
import Derived.Test.Qxb6628717aW13
import Derived.WalkKit
import Derived.ProofKit
import Derived.OpenShut
import Derived.ShutString
import Derived.Carry
namespace Go.Proofs.Qxb6628717a
open Go.ChangeShapes Go.WideShapes Go.ChangeAt Go.RowKit

theorem own3 : ownKnob Try.prog.godebug = none := by kernel_rfl
theorem laidOut : laidOutB Try.prog = true := by kernel_rfl
theorem cells22 : Try.prog.cellsOf 22 = 8 := by kernel_rfl
theorem cells3 : Try.prog.cellsOf 3 = 1 := by kernel_rfl
theorem cells5 : Try.prog.cellsOf 5 = 1 := by kernel_rfl

theorem u8_bounds {n : Int} (h : (Lit.int .u8 n).wf = true) : 0 ≤ n ∧ n ≤ 255 := by
  have e1 : IntKind.u8.min = 0 := rfl
  have e2 : IntKind.u8.max = 255 := rfl
  simp [Lit.wf, e1, e2] at h
  omega

theorem open_cnt {H : Type} {enc : TypeId × Value → H} {W : World} {base : Nat} {v : Value} {d : DataW H} {p : List MemPlace} (hv : Value.okWide Try.prog W .any base 22 v)
    (h : DataW.Trod enc Try.prog W 0 (fun _ => true) true 22 v d p) : ∃ cn : Nat → Int, v = arr cn := by
  have hv' := hv
  simp only [Value.okWide, Try.underlying22] at hv'
  obtain ⟨cs, rfl, hsz, _⟩ := hv'
  rw [cells22] at hsz
  obtain ⟨fuel, hf⟩ := h
  obtain ⟨xs, m, _, _, hlen, hxl, hx⟩ := DataW.trod_array Try.underlying22 hf
  rw [cells3] at hx
  have key : ∀ i, i < 8 → ∃ n : Int, (cs.toList.drop i).take 1 = [.int .i64 n] := by
    intro i hi
    have h1 := hx i hi
    obtain ⟨y, hy⟩ : ∃ y, xs[i]? = some y := ⟨xs[i]'(by omega), List.getElem?_eq_getElem _⟩
    rw [hy] at h1
    obtain ⟨n, h2, _⟩ := DataW.trod_int Try.underlying3 h1
    refine ⟨n, ?_⟩
    simpa [Value.cells] using h2
  obtain ⟨l⟩ := cs
  simp only [List.size_toArray] at hsz
  match l, hsz with
  | [c0, c1, c2, c3, c4, c5, c6, c7], _ =>
    obtain ⟨n0, k0⟩ := key 0 (by omega)
    obtain ⟨n1, k1⟩ := key 1 (by omega)
    obtain ⟨n2, k2⟩ := key 2 (by omega)
    obtain ⟨n3, k3⟩ := key 3 (by omega)
    obtain ⟨n4, k4⟩ := key 4 (by omega)
    obtain ⟨n5, k5⟩ := key 5 (by omega)
    obtain ⟨n6, k6⟩ := key 6 (by omega)
    obtain ⟨n7, k7⟩ := key 7 (by omega)
    simp at k0 k1 k2 k3 k4 k5 k6 k7
    subst k0 k1 k2 k3 k4 k5 k6 k7
    exact ⟨fun | 0 => n0 | 1 => n1 | 2 => n2 | 3 => n3 | 4 => n4 | 5 => n5 | 6 => n6 | _ => n7, rfl⟩

theorem open_nums {H : Type} {enc : TypeId × Value → H} {W : World} {t e : TypeId} {k : IntKind} {ao : Option Addr} {n cap : Nat} {d : DataW H} {p : List MemPlace} (ht : Try.prog.underlying t = some (.slice e)) (he : Try.prog.underlying e = some (.int k)) (hc : Try.prog.cellsOf e = 1)
    (h : DataW.Trod enc Try.prog W 0 (fun _ => true) true t (.slice ao n cap) d p) : ∃ f : Nat → Int, n ≤ maxLen ∧ Arg W ao n cap k f ∧ ∀ i, i < n → (Lit.int k (f i)).wf = true := by
  obtain ⟨fuel, hf⟩ := h
  rcases open_ints ht he hc hf with ⟨hcs, _⟩ | ⟨a, len, cap', zs, hcs, _, hl, hm, hz, _, hcell, hwz⟩
  · have e1 : Value.slice ao n cap = .slice none 0 0 := by simpa [Value.cells] using hcs
    simp only [Value.slice.injEq] at e1
    obtain ⟨rfl, rfl, rfl⟩ := e1
    exact ⟨fun _ => 0, Nat.zero_le _, .inl ⟨rfl, rfl, rfl⟩, fun i hi => by omega⟩
  · have e1 : Value.slice ao n cap = .slice (some a) len cap' := by simpa [Value.cells] using hcs
    simp only [Value.slice.injEq] at e1
    obtain ⟨rfl, rfl, rfl⟩ := e1
    simp only [if_true] at hz
    refine ⟨fun i => zs.getD i 0, by omega, .inr ⟨a, rfl, fun i hi => ?_⟩, fun i hi => ?_⟩
    · have h1 := hcell i (by omega)
      refine ⟨?_, h1⟩
      have h2 := block_lt_of_cell h1
      rwa [block_add] at h2
    · have h1 : zs.getD i 0 = zs[i]'(by omega) := by simp [List.getD, show i < zs.length by omega]
      show (Lit.int k (zs.getD i 0)).wf = true
      rw [h1]
      exact hwz _ (List.getElem_mem _)

set_option maxRecDepth 100000 in
theorem lifted3 (os : Os) (started : os.Started) (H : Type) (enc : TypeId × Value → H) :
    ReturnsInHanded {} Try.checked os 3 .any (Rows.fnDecodeMatchesCanonicalCodeTableSpec.pre6 enc Try.prog Try.f3 Rows.fnDecodeMatchesCanonicalCodeTableRow.domain false) (Rows.fnDecodeMatchesCanonicalCodeTableSpec.post enc Try.prog Try.f3 false true false false) := by
  refine returnsInHanded_of_change (C := Try.checked) own3 started (by kernel_rfl) Try.func3
    (ChangeSpec.witness6 (enc := enc) (C := Try.checked) false ⟨#[], #[.agg #[.int .i64 0, .int .i64 0, .int .i64 0, .int .i64 0, .int .i64 0, .int .i64 0, .int .i64 0, .int .i64 0], .slice none 0 0, .slice none 0 0, .int .i64 0, .bool false], []⟩ 8 (by kernel_rfl) (by kernel_rfl) (by kernel_rfl) (by kernel_rfl)) ?_
  intro W base args ds gs before hval0 hW hcnd _
  have hval : ∀ (j : Nat) t v, Try.f3.params[j]? = some t → args[j]? = some v → Value.okWide Try.prog W .any base t v := hval0
  have hW' := hW
  obtain ⟨p, q, hA0, hV, rfl, hfz, hnd⟩ := hW
  have hA : DataW.TrodAll enc Try.prog W 0 (fun _ => true) true Try.f3.params.toList args.toList ds p := hA0
  rw [Try.params3] at hA hval
  obtain ⟨v0, vs0, d0, ds0, p0, q0, hargs, rfl, rfl, h0, r0⟩ := trodAll_cons hA
  obtain ⟨v1, vs1, d1, ds1, p1, q1, rfl, rfl, rfl, h1, r1⟩ := trodAll_cons r0
  obtain ⟨v2, vs2, d2, ds2, p2, q2, rfl, rfl, rfl, h2, r2⟩ := trodAll_cons r1
  obtain ⟨v3, vs3, d3, ds3, p3, q3, rfl, rfl, rfl, h3, r3⟩ := trodAll_cons r2
  obtain ⟨v4, vs4, d4, ds4, p4, q4, rfl, rfl, rfl, h4, r4⟩ := trodAll_cons r3
  obtain ⟨rfl, rfl, rfl⟩ := trodAll_nil r4
  obtain rfl : args = #[v0, v1, v2, v3, v4] := by cases args; simp_all
  obtain ⟨rfl, rfl⟩ := trodVars_none hV
  obtain ⟨cn, rfl⟩ := open_cnt (hval 0 22 v0 rfl rfl) h0
  obtain ⟨so, sn, sc, rfl⟩ := okWide_slice Try.underlying23 (hval 1 23 v1 rfl rfl)
  obtain ⟨bo, n, bc, rfl⟩ := okWide_slice Try.underlying24 (hval 2 24 v2 rfl rfl)
  obtain ⟨a3, rfl, rfl, rfl, w3⟩ := open_int Try.underlying3 (hval 3 3 v3 rfl rfl) h3
  obtain ⟨a4, rfl, rfl, rfl⟩ := open_bool Try.underlying4 (hval 4 4 v4 rfl rfl) h4
  obtain ⟨sy, hs, hS, _⟩ := open_nums Try.underlying23 Try.underlying3 cells3 h1
  obtain ⟨bs, hn, hB, hb⟩ := open_nums Try.underlying24 Try.underlying5 cells5 h2
  unfold maxLen at hs hn
  clear hA0 hval0
  have hlt0 : ∀ x ∈ p0, x.block < W.heap.size := fun x hx => hW'.lt x (by simp [hx])
  have hlt1 : ∀ x ∈ p1, x.block < W.heap.size := fun x hx => hW'.lt x (by simp [hx])
  have hlt2 : ∀ x ∈ p2, x.block < W.heap.size := fun x hx => hW'.lt x (by simp [hx])
  refine (law3_any so bo sn sc n bc sy bs cn a3 a4 W (by omega) (by omega) (fun i hi => u8_bounds (hb i hi)) hS hB).mono fun e W' ⟨he, hg⟩ => ?_
  subst he
  refine ⟨_, rfl, _, _, _, [], p0 ++ (p1 ++ (p2 ++ ([] ++ ([] ++ [])))), [], hW', ?_, ?_, rfl, hg.frame _, fun h => by cases h⟩
  · exact trodAll_mk1 (shut_bool Try.underlying4 _)
  · exact trodAll_cons_mk (Below.trod laidOut (by kernel_rfl) (of_decide_eq_true (by kernel_rfl)) h0 hg hlt0) (trodAll_cons_mk (Below.trod laidOut (by kernel_rfl) (of_decide_eq_true (by kernel_rfl)) h1 hg hlt1) (trodAll_cons_mk (Below.trod laidOut (by kernel_rfl) (of_decide_eq_true (by kernel_rfl)) h2 hg hlt2) (trodAll_cons_mk (shut_int Try.underlying3 w3) (trodAll_cons_mk (shut_bool Try.underlying4 _) trodAll_mk0))))

theorem over3 : Rows.fnDecodeMatchesCanonicalCodeTableRow.holds Try.pinned (OpenSpec.ofChange Rows.fnDecodeMatchesCanonicalCodeTableSpec) :=
  OpenClaim.holds_of_wide 3 Try.f3 rfl rfl rfl rfl rfl rfl rfl ⟨rfl, rfl, rfl, rfl, rfl⟩ rfl rfl rfl rfl rfl (by kernel_rfl) Try.func3 (by kernel_rfl)
    (of_decide_eq_true (by kernel_rfl)) (by unfold Func.isWrapper; first | (rw [if_pos (by decide +kernel)]; kernel_rfl) | (rw [if_neg (by decide +kernel)]; exact ⟨rfl, rfl⟩))
    (fun os started H enc _ => lifted3 os started H enc)

theorem table : Rows.FnDecodeMatchesCanonicalCodeTableSaid :=
  over3
end Go.Proofs.Qxb6628717a
