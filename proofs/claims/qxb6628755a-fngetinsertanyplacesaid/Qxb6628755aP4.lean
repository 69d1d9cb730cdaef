import Derived.Test.Qxb6628755aRows
import Derived.Test.Qxb6628755aW8
import Derived.Lib.SmallJoins
import Derived.WalkKit
import Derived.ProofKit
import Derived.OpenShut
import Derived.ShutString
import Derived.Carry
import Derived.Deep.SlicePairs
namespace Go.Proofs.Qxb6628755a
open Go.ChangeShapes Go.WideShapes Go.ChangeAt Go.RowKit Go.Deep
open Go.ChangeMaps (open_string shut_string)
open Go.Joins

theorem own4 : ownKnob Try.prog.godebug = none := by kernel_rfl
theorem laidOut : laidOutB Try.prog = true := by kernel_rfl
theorem cells32 : Try.prog.cellsOf 32 = 2 := by kernel_rfl
theorem cells3 : Try.prog.cellsOf 3 = 1 := by kernel_rfl
theorem cells9 : Try.prog.cellsOf 9 = 1 := by kernel_rfl

def numV : Value → Int
  | .int _ n => n
  | _ => 0
def strV : Value → ByteArray
  | .string s => s
  | _ => ⟨#[]⟩

theorem open_fields {H : Type} {enc : TypeId × Value → H} {W : World} {ao : Option Addr} {n cap : Nat} {d : DataW H} {p : List MemPlace}
    (h : DataW.Trod enc Try.prog W 0 (fun _ => true) true 22 (.slice ao n cap) d p) : ∃ xs : List F, n = xs.length ∧ n ≤ maxLen ∧ ArgF W W.heap.size ao xs ∧ (ao = none → n = 0) := by
  obtain ⟨fuel, hf⟩ := h
  rcases open_slice_pairs Try.underlying22 Try.underlying32 cells32 rfl rfl cells3 cells9 hf with ⟨hcs, _⟩ | ⟨a, len, cap', m, k, V0, V1, D0, D1, P0, P1, hcs, _, hl, hm, hmm, _, hx⟩
  · have e : Value.slice ao n cap = .slice none 0 0 := by simpa [Value.cells] using hcs
    simp only [Value.slice.injEq] at e
    obtain ⟨rfl, rfl, rfl⟩ := e
    exact ⟨[], rfl, Nat.zero_le _, .inl rfl, fun _ => rfl⟩
  · have e : Value.slice ao n cap = .slice (some a) len cap' := by simpa [Value.cells] using hcs
    simp only [Value.slice.injEq] at e
    obtain ⟨rfl, rfl, rfl⟩ := e
    simp only [if_true] at hmm
    subst hmm
    refine ⟨(List.range n).map fun i => ⟨numV (V0 i), strV (V1 i)⟩, by simp, by omega, ?_, fun h => by cases h⟩
    by_cases h0 : n = 0
    · left; subst h0; rfl
    · right
      obtain ⟨b, o, spot⟩ := a
      have c0 := (hx 0 (by omega)).1
      have hspot : spot = none := by simpa [Addr.add] using World.cell?_spot c0
      subst hspot
      refine ⟨b, o, rfl, ?_, ?_⟩
      · have := block_lt_of_cell c0
        simpa [Addr.add] using this
      · intro j f hj
        rw [List.getElem?_map, Option.map_eq_some_iff] at hj
        obtain ⟨j', hj', rfl⟩ := hj
        have hjn : j < n := by
          have := (List.getElem?_eq_some_iff.1 hj').1
          simpa using this
        obtain rfl : j = j' := by
          rw [List.getElem?_range hjn] at hj'
          exact Option.some.inj hj'
        obtain ⟨q0, q1, t0, t1⟩ := hx j (by omega)
        obtain ⟨x, e0, _⟩ := DataW.trod_int Try.underlying3 t0
        obtain ⟨s, e1, _⟩ := DataW.trod_string Try.underlying9 t1
        simp only [List.cons.injEq, and_true] at e0 e1
        rw [e0] at q0 ⊢
        rw [e1] at q1 ⊢
        rw [show (⟨b, o, none⟩ : Addr).add (j * 2) = ⟨b, o + j * 2, none⟩ from add_plain ..] at q0
        rw [show (⟨b, o, none⟩ : Addr).add (j * 2 + 1) = ⟨b, o + (j * 2 + 1), none⟩ from add_plain ..] at q1
        exact ⟨q0, q1⟩

set_option maxRecDepth 100000 in
theorem lifted4 (os : Os) (started : os.Started) (H : Type) (enc : TypeId × Value → H) :
    ReturnsInHanded {} Try.checked os 4 .any (Rows.fnGetInsertAnyPlaceSpec.pre6 enc Try.prog Try.f4 Rows.fnGetInsertAnyPlaceRow.domain false) (Rows.fnGetInsertAnyPlaceSpec.post enc Try.prog Try.f4 false true false false) := by
  refine returnsInHanded_of_change (C := Try.checked) own4 started (by kernel_rfl) Try.func4
    (ChangeSpec.witness6 (enc := enc) (C := Try.checked) false ⟨#[], #[.slice none 0 0, .int .i64 0, .agg #[.int .i64 0, .string ⟨#[]⟩], .int .i64 0], []⟩ 8 (by kernel_rfl) (by kernel_rfl) (by kernel_rfl) (by kernel_rfl)) ?_
  intro W base args ds gs before hval0 hW hcnd _
  have hval : ∀ (j : Nat) t v, Try.f4.params[j]? = some t → args[j]? = some v → Value.okWide Try.prog W .any base t v := hval0
  have hW' := hW
  obtain ⟨p, q, hA0, hV, rfl, hfz, hnd⟩ := hW
  have hA : DataW.TrodAll enc Try.prog W 0 (fun _ => true) true Try.f4.params.toList args.toList ds p := hA0
  rw [Try.params4] at hA hval
  obtain ⟨v0, vs0, d0, ds0, p0, q0, hargs, rfl, rfl, h0, r0⟩ := trodAll_cons hA
  obtain ⟨v1, vs1, d1, ds1, p1, q1, rfl, rfl, rfl, h1, r1⟩ := trodAll_cons r0
  obtain ⟨v2, vs2, d2, ds2, p2, q2, rfl, rfl, rfl, h2, r2⟩ := trodAll_cons r1
  obtain ⟨v3, vs3, d3, ds3, p3, q3, rfl, rfl, rfl, h3, r3⟩ := trodAll_cons r2
  obtain ⟨rfl, rfl, rfl⟩ := trodAll_nil r3
  obtain rfl : args = #[v0, v1, v2, v3] := by cases args; simp_all
  obtain ⟨rfl, rfl⟩ := trodVars_none hV
  obtain ⟨so, n, ca, rfl⟩ := okWide_slice Try.underlying22 (hval 0 22 v0 rfl rfl)
  obtain ⟨i, rfl, rfl, rfl, w1⟩ := open_int Try.underlying3 (hval 1 3 v1 rfl rfl) h1
  obtain ⟨tag, rfl, rfl, rfl, w3⟩ := open_int Try.underlying3 (hval 3 3 v3 rfl rfl) h3
  obtain ⟨f, rfl⟩ : ∃ f : F, v2 = .agg #[.int .i64 f.t, .string f.v] := by
    obtain ⟨c0, c1, y0, y1, m, hv, _, _, hy0, hy1⟩ := open_agg2 Try.underlying32 (by kernel_rfl) cells32 (hval 2 32 v2 rfl rfl) h2
    obtain ⟨x, e0, _⟩ := DataW.trod_int Try.underlying3 hy0
    obtain ⟨s, e1, _⟩ := DataW.trod_string Try.underlying9 hy1
    simp at e0 e1
    refine ⟨⟨x, s⟩, ?_⟩
    rw [hv, e0, e1]
  obtain ⟨xs, hN, hn, hAx, hx0⟩ := open_fields h0
  unfold maxLen at hn
  clear hA0 hval0
  have hlt0 : ∀ x ∈ p0, x.block < W.heap.size := fun x hx => hW'.lt x (by simp [hx])
  have hlt2 : ∀ x ∈ p2, x.block < W.heap.size := fun x hx => hW'.lt x (by simp [hx])
  refine (law4_any so ca n i tag f xs W (by omega) hN hx0 hAx).mono fun e W' ⟨he, hg⟩ => ?_
  subst he
  refine ⟨_, rfl, _, _, _, [], p0 ++ ([] ++ (p2 ++ ([] ++ []))), [], hW', ?_, ?_, rfl, hg.frame _, fun h => by cases h⟩
  · exact trodAll_mk1 (shut_bool Try.underlying4 _)
  · exact trodAll_cons_mk (Below.trod laidOut (by kernel_rfl) (of_decide_eq_true (by kernel_rfl)) h0 hg hlt0) (trodAll_cons_mk (shut_int Try.underlying3 w1) (trodAll_cons_mk (Below.trod laidOut (by kernel_rfl) (of_decide_eq_true (by kernel_rfl)) h2 hg hlt2) (trodAll_cons_mk (shut_int Try.underlying3 w3) trodAll_mk0)))

theorem over4 : Rows.fnGetInsertAnyPlaceRow.holds Try.pinned (OpenSpec.ofChange Rows.fnGetInsertAnyPlaceSpec) :=
  OpenClaim.holds_of_wide 4 Try.f4 rfl rfl rfl rfl rfl rfl rfl ⟨rfl, rfl, rfl, rfl, rfl⟩ rfl rfl rfl rfl rfl (by kernel_rfl) Try.func4 (by kernel_rfl)
    (of_decide_eq_true (by kernel_rfl)) (by unfold Func.isWrapper; first | (rw [if_pos (by decide +kernel)]; kernel_rfl) | (rw [if_neg (by decide +kernel)]; exact ⟨rfl, rfl⟩))
    (fun os started H enc _ => lifted4 os started H enc)

theorem insert : Rows.FnGetInsertAnyPlaceSaid :=
  over4
end Go.Proofs.Qxb6628755a
