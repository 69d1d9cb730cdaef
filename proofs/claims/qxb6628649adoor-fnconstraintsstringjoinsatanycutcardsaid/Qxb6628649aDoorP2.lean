import Derived.Test.Qxb6628649aDoorW10
import Derived.Test.Qxb6628649aDoorP1
import Derived.Deep.Slices
namespace Go.Proofs.Qxb6628649aDoor
open Go.ChangeShapes Go.WideShapes Go.ChangeAt Go.WideMaps Go.WideElems Go.RowKit Go.Deep

theorem cells30 : Tryd.prog.cellsOf 30 = 6 := by kernel_rfl
theorem cells9 : Tryd.prog.cellsOf 9 = 1 := by kernel_rfl
theorem cells3 : Tryd.prog.cellsOf 3 = 1 := by kernel_rfl

theorem one_of_take {cs : List Value} {i : Nat} {v : Value} (h : (cs.drop i).take 1 = [v]) : cs[i]? = some v := by
  have := congrArg (·[0]?) h
  simpa [List.getElem?_take, List.getElem?_drop] using this

/-- One element of the slice, as plain data. -/
theorem open_cond {H : Type} {enc : TypeId × Value → H} {W : World} {sp : Nat → Bool} {held : Bool} {fuel : Nat} {cs : List Value} {x : DataW H × List MemPlace}
    (h : DataW.trod enc Tryd.prog W 0 sp held fuel 30 cs = some x) : ∃ c : Cnd, c.In ∧ cs[0]? = some (.string c.op) ∧ cs[1]? = some (.int .i64 c.ma) ∧ cs[2]? = some (.int .i64 c.mi) ∧ cs[3]? = some (.int .i64 c.pa) ∧ cs[4]? = some (.string c.pre) ∧ cs[5]? = some (.int .i64 c.pt) := by
  obtain ⟨xs, n, _, _, hl, hlen, hf⟩ := DataW.trod_struct Tryd.underlying30 h
  match xs, hlen with
  | [y0, y1, y2, y3, y4, y5], _ =>
    have f0 : DataW.trod enc Tryd.prog W 0 sp held n 9 ((cs.drop 0).take (Tryd.prog.cellsOf 9)) = some y0 := hf 0 _ rfl
    have f1 : DataW.trod enc Tryd.prog W 0 sp held n 3 ((cs.drop 1).take (Tryd.prog.cellsOf 3)) = some y1 := hf 1 _ rfl
    have f2 : DataW.trod enc Tryd.prog W 0 sp held n 3 ((cs.drop 2).take (Tryd.prog.cellsOf 3)) = some y2 := hf 2 _ rfl
    have f3 : DataW.trod enc Tryd.prog W 0 sp held n 3 ((cs.drop 3).take (Tryd.prog.cellsOf 3)) = some y3 := hf 3 _ rfl
    have f4 : DataW.trod enc Tryd.prog W 0 sp held n 9 ((cs.drop 4).take (Tryd.prog.cellsOf 9)) = some y4 := hf 4 _ rfl
    have f5 : DataW.trod enc Tryd.prog W 0 sp held n 3 ((cs.drop 5).take (Tryd.prog.cellsOf 3)) = some y5 := hf 5 _ rfl
    rw [cells9] at f0 f4
    rw [cells3] at f1 f2 f3 f5
    obtain ⟨op, e0, _, w0⟩ := DataW.trod_string Tryd.underlying9 f0
    obtain ⟨ma, e1, _, w1⟩ := DataW.trod_int Tryd.underlying3 f1
    obtain ⟨mi, e2, _, w2⟩ := DataW.trod_int Tryd.underlying3 f2
    obtain ⟨pa, e3, _, w3⟩ := DataW.trod_int Tryd.underlying3 f3
    obtain ⟨pre, e4, _, w4⟩ := DataW.trod_string Tryd.underlying9 f4
    obtain ⟨pt, e5, _, w5⟩ := DataW.trod_int Tryd.underlying3 f5
    exact ⟨⟨op, ma, mi, pa, pre, pt⟩, ⟨(i64_bounds w1).1, (i64_bounds w1).2, (i64_bounds w2).1, (i64_bounds w2).2, (i64_bounds w3).1, (i64_bounds w3).2, w0, w4⟩,
      one_of_take e0, one_of_take e1, one_of_take e2, one_of_take e3, one_of_take e4, one_of_take e5⟩

theorem plain_add (b o i : Nat) : (⟨b, o, none⟩ : Addr).add i = ⟨b, o + i, none⟩ := Go.WideShapes.add_plain ..

theorem open_conds {H : Type} {enc : TypeId × Value → H} {W : World} {ao : Option Addr} {n cap : Nat} {d : DataW H} {p : List MemPlace}
    (h : DataW.Trod enc Tryd.prog W 0 (fun _ => true) true 22 (.slice ao n cap) d p) : ∃ xs : List Cnd, n = xs.length ∧ n ≤ maxLen ∧ ArgC W ao xs ∧ ∀ c ∈ xs, c.In := by
  obtain ⟨fuel, hf⟩ := h
  rcases open_slice Tryd.underlying22 hf with ⟨hcs, _⟩ | ⟨a, len, cap', m, k, D, Pl, hcs, _, hl, hm, hmm, _, hx⟩
  · have e : Value.slice ao n cap = .slice none 0 0 := by simpa [Value.cells] using hcs
    simp only [Value.slice.injEq] at e
    exact ⟨[], by simp [e.2.1], by rw [e.2.1]; exact Nat.zero_le _, .inl rfl, by simp⟩
  · have e : Value.slice ao n cap = .slice (some a) len cap' := by simpa [Value.cells] using hcs
    simp only [Value.slice.injEq] at e
    obtain ⟨rfl, rfl, rfl⟩ := e
    rw [cells30] at hx
    simp only [if_true] at hmm
    subst hmm
    obtain ⟨f, hfc⟩ := @choose_lt Cnd ⟨Cnd.zero⟩ n (fun i c => c.In ∧ ∃ cs', W.cells? 0 (a.add (i * 6)) 6 = some cs' ∧ cs'[0]? = some (.string c.op) ∧ cs'[1]? = some (.int .i64 c.ma) ∧ cs'[2]? = some (.int .i64 c.mi) ∧ cs'[3]? = some (.int .i64 c.pa) ∧ cs'[4]? = some (.string c.pre) ∧ cs'[5]? = some (.int .i64 c.pt)) (fun i hi => by
      obtain ⟨cs', h1, h2⟩ := hx i (by omega)
      obtain ⟨c, hc, hr⟩ := open_cond h2
      exact ⟨c, hc, cs', h1, hr⟩)
    refine ⟨(List.range n).map f, by simp, by omega, ?_, ?_⟩
    · by_cases h0 : n = 0
      · left; subst h0; rfl
      · right
        obtain ⟨b, o, spot⟩ := a
        have hspot : spot = none := by
          obtain ⟨_, cs', h1, h2, _⟩ := hfc 0 (by omega)
          obtain ⟨_, _, h3⟩ := World.cells?_some h1
          have h4 := h3 0 (by decide)
          rw [h2] at h4
          simpa [Addr.add] using World.cell?_spot h4
        subst hspot
        refine ⟨b, o, rfl, ?_, ?_⟩
        · obtain ⟨_, cs', h1, _⟩ := hfc 0 (by omega)
          have := World.cells?_block h1 (by decide)
          simpa [Addr.add] using this
        · intro i c hc
          rw [List.getElem?_map, Option.map_eq_some_iff] at hc
          obtain ⟨j, hj, rfl⟩ := hc
          have hjn : i < n := by have := (List.getElem?_eq_some_iff.1 hj).1; simpa using this
          obtain rfl : i = j := by simpa [hjn] using hj
          obtain ⟨_, cs', h1, g0, g1, g2, g3, g4, g5⟩ := hfc i hjn
          obtain ⟨_, _, h3⟩ := World.cells?_some h1
          rw [plain_add] at h3
          have key : ∀ j, j < 6 → W.cell? ⟨b, o + i * 6 + j, none⟩ = cs'[j]? := fun j hj => by rw [← plain_add]; exact h3 j hj
          exact ⟨(key 0 (by decide)).trans g0, (key 1 (by decide)).trans g1, (key 2 (by decide)).trans g2, (key 3 (by decide)).trans g3, (key 4 (by decide)).trans g4, (key 5 (by decide)).trans g5⟩
    · intro c hc
      obtain ⟨i, hi, rfl⟩ := List.mem_map.1 hc
      exact (hfc i (List.mem_range.1 hi)).1

theorem laidOut : laidOutB Tryd.prog = true := by kernel_rfl

set_option maxRecDepth 100000 in
theorem lifted3 (os : Os) (started : os.Started) (H : Type) (enc : TypeId × Value → H) :
    ReturnsInHanded {} Tryd.checked os 3 .any (fun w args => (Rows.fnConstraintsStringJoinsAtAnyCutSpec.pre enc Tryd.prog Tryd.f3 [] false w args ∧ laidMetH Tryd.prog laid3 w) ∧ sizedMet enc Tryd.prog Tryd.f3 (OpenSpec.ofChange Rows.fnConstraintsStringJoinsAtAnyCutSpec) false w args)
      (Rows.fnConstraintsStringJoinsAtAnyCutSpec.post enc Tryd.prog Tryd.f3 false true false false) := by
  refine returnsInHanded_of_change_and (C := Tryd.checked) (X := fun w _ => laidMetH Tryd.prog laid3 w) (fun _ _ _ hh h => h.of_heap hh) own started (by kernel_rfl) Tryd.func3
    (ChangeSpec.witness_shaped (enc := enc) (C := Tryd.checked) (os := os) (X := fun w _ => laidMetH Tryd.prog laid3 w) false (World.doorLaid Tryd.prog 24 os) #[.slice none 0 0, .slice none 0 0] 8 rfl (World.shaped_of_RefB (by kernel_rfl) (by kernel_rfl)) (by kernel_rfl) (by kernel_rfl) (by kernel_rfl) (door_met os _)) ?_
  intro W base args ds gs before hval0 hW _ _ hL _
  have hval : ∀ (j : Nat) t v, Tryd.f3.params[j]? = some t → args[j]? = some v → Value.okWide Tryd.prog W .any base t v := hval0
  have hW' := hW
  obtain ⟨p, q, hA0, hV, rfl, hfz, hnd⟩ := hW
  have hA : DataW.TrodAll enc Tryd.prog W 0 (fun _ => true) true Tryd.f3.params.toList args.toList ds p := hA0
  rw [Tryd.params3] at hA hval
  obtain ⟨v0, v1, d0, d1, p0, p1, rfl, rfl, rfl, h0, h1⟩ := trodAll_two hA
  obtain ⟨rfl, rfl⟩ := trodVars_none hV
  obtain ⟨ao, n, ca, rfl⟩ := okWide_slice Tryd.underlying22 (hval 0 22 v0 rfl rfl)
  obtain ⟨bo, m, cb, rfl⟩ := okWide_slice Tryd.underlying22 (hval 1 22 v1 rfl rfl)
  obtain ⟨xs, hN, hn, hAx, hx⟩ := open_conds h0
  obtain ⟨ys, hM, hm, hAy, hy⟩ := open_conds h1
  clear hA0 hval0
  simp only [List.append_nil] at hW'
  have hlt0 : ∀ x ∈ p0, x.block < W.heap.size := fun x hx => hW'.lt x (by simp [hx])
  have hlt1 : ∀ x ∈ p1, x.block < W.heap.size := fun x hx => hW'.lt x (by simp [hx])
  refine (joins_any xs ys ao bo ca cb n m W hn hm hN hM hAx hAy hx hy (tab_of_laid hL)).mono fun e W' ⟨he, hnx⟩ => ?_
  subst he
  refine ⟨_, rfl, _, _, _, [], p0 ++ p1, [], hW', ?_, ?_, rfl, hnx.frame _, fun h => by cases h⟩
  · exact trodAll_mk1 (shut_bool Tryd.underlying4 _)
  · exact trodAll_mk2 (Below.trod laidOut (by kernel_rfl) (of_decide_eq_true (by kernel_rfl)) h0 hnx hlt0) (Below.trod laidOut (by kernel_rfl) (of_decide_eq_true (by kernel_rfl)) h1 hnx hlt1)

theorem joins_row : Rows.FnConstraintsStringJoinsAtAnyCutSaid :=
  OpenClaim.holds_of_wide 3 Tryd.f3 rfl rfl rfl rfl rfl rfl rfl ⟨rfl, rfl, rfl, rfl, rfl⟩ rfl rfl rfl rfl rfl (by kernel_rfl) Tryd.func3 (by kernel_rfl)
    (of_decide_eq_true (by kernel_rfl)) (by unfold Func.isWrapper; first | (rw [if_pos (by decide +kernel)]; kernel_rfl) | (rw [if_neg (by decide +kernel)]; exact ⟨rfl, rfl⟩))
    (fun os started H enc _ => lifted3 os started H enc)

theorem joins_card : Rows.FnConstraintsStringJoinsAtAnyCutCardSaid :=
  Claim7.holds_tied_plain_at .later [] [.data, .data, .data] true (true, "6e10cac38ce8de4414a57cbe4251dddcae450129354499e32109f980ceabec3e") false
    joins_row (fun _ h => by cases h) (by kernel_rfl) (fun _ h => by cases h) fnConstraintsStringJoinsAtAnyCut_row_tie rfl ⟨rfl, rfl⟩ (by kernel_rfl) rfl
    (fun f fn hf hfn => by
      obtain rfl : f = 3 := Option.some.inj ((show Tryd.prog.funcNamed Rows.fnConstraintsStringJoinsAtAnyCutRow.func = some 3 by kernel_rfl).symm.trans hf) |>.symm
      obtain rfl : fn = Tryd.f3 := (Option.some.inj (Tryd.func3.symm.trans hfn)).symm
      exact ⟨by kernel_rfl, fun j t ht => by
        rw [Tryd.params3] at ht
        have hm : t ∈ [22, 22] := by simpa using Array.mem_of_getElem? ht
        have hall : ([22, 22].all fun u => !Tryd.prog.wantsStandIn u) = true := by kernel_rfl
        exact (show Tryd.prog.wantsStandIn t = false by simpa using List.all_eq_true.1 hall t hm)⟩)
    (by kernel_rfl)

end Go.Proofs.Qxb6628649aDoor
