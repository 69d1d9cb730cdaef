import Derived.Test.Qxb6628649aDoorW2
import Derived.Deep.OwnRows
namespace Go.Proofs.Qxb6628649aDoor
open Go.RowKit Go.Deep

theorem info9 : (Tryd.prog.info? 9).map (fun i => (i.zero, i.size, i.bytes)) = some (some (.string ⟨#[]⟩), 1, 16) := by kernel_rfl

def HoldsC (w : World) (b o : Nat) (cs : List Cnd) : Prop := ∀ k c, cs[k]? = some c →
  w.cell? ⟨b, o + k * 6, none⟩ = some (.string c.op) ∧ w.cell? ⟨b, o + k * 6 + 1, none⟩ = some (.int .i64 c.ma) ∧ w.cell? ⟨b, o + k * 6 + 2, none⟩ = some (.int .i64 c.mi) ∧
  w.cell? ⟨b, o + k * 6 + 3, none⟩ = some (.int .i64 c.pa) ∧ w.cell? ⟨b, o + k * 6 + 4, none⟩ = some (.string c.pre) ∧ w.cell? ⟨b, o + k * 6 + 5, none⟩ = some (.int .i64 c.pt)

theorem join_any (bk o c : Nat) (xs : List ByteArray) (sep : ByteArray) (w : World)
    (hcells : ∀ (j : Nat) x, xs[j]? = some x → w.cell? ⟨bk, o + j, none⟩ = some (.string x))
    (hbk : bk < w.heap.size) (hN : xs.length ≤ 140737488355328) (hcap : xs.length ≤ c)
    (hlen : (Lib.join (xs.map (·.data.toList)) sep.data.toList).length ≤ 140737488355328) :
    Calls Tryd.prog 15 #[.slice (some ⟨bk, o, none⟩) xs.length c, .string sep] w fun e w' => e = .returned (.string ⟨(Lib.join (xs.map (·.data.toList)) sep.data.toList).toArray⟩) ∧ Below w.heap.size w w' :=
  Tryd.strings_Join bk o c xs sep w hcells hbk hN hcap hlen

set_option maxHeartbeats 400000 in
theorem consS_any (cs : List Cnd) (b o cap : Nat) (w : World) (hn : cs.length ≤ 1048576) (hb : b < w.heap.size) (hC : HoldsC w b o cs) (hok : ∀ c ∈ cs, c.Ok) (htab : Tab w) :
    Calls Tryd.prog 8 #[.slice (some ⟨b, o, none⟩) cs.length cap] w fun e w' => e = .returned (.string (consB cs)) ∧ Below w.heap.size w w' := by
  have hmk := fun w => run_make_row' (P := Tryd.prog) 40 9 (.string ⟨#[]⟩) 16 Tryd.underlying40 info9 rfl .i64 .i64 cs.length (by omega) (by omega) w
  have HC : Hid (HoldsC w b o cs) := hC
  clear hC
  obtain ⟨n, hcn⟩ : ∃ n, n = cs.length := ⟨_, rfl⟩
  have HN : Hid (n = cs.length) := hcn
  rw [← hcn] at hmk hn ⊢
  clear hcn
  have HO : Hid (∀ c ∈ cs, c.Ok) := hok
  clear hok
  go_enter Tryd.func8, Tryd.ntmps8
  go_wp2
  go_loopw [11] (fun i wr => ∃ k : Nat, k ≤ n ∧ i = .int .i64 k ∧ Hid (∀ j, j < n → wr.cell? ⟨w.heap.size, j, none⟩ = some (.string (if j < k then (cs.getD j Cnd.zero).str else ⟨#[]⟩))) ∧ Hid (∀ j, j < n → wr.frozen? ⟨w.heap.size, j, none⟩ = false) ∧ Hid (w.heap.size < wr.heap.size ∧ Below w.heap.size w wr)) (fun i _ => n - (intOf i).toNat)
  case atStart =>
    refine ⟨0, Nat.zero_le _, rfl, ?_, ?_, ?_⟩
    · intro j hj
      rw [World.cell?_alloc_at _ _ _ _ rfl]
      simp [madeCells, hj, Nat.mod_one]
    · intro j hj
      rw [World.frozen?_alloc_at _ _ _ _ rfl]
    · exact ⟨by simp, (Below.refl _ _).alloc (Nat.le_refl _) _⟩
  case round =>
    obtain ⟨k, hk, rfl, H1, H2, H3⟩ := hrel
    by_cases hlt : k < n
    · obtain ⟨c, hck⟩ : ∃ c, cs[k]? = some c := ⟨cs[k]'(by rw [← HN.out]; exact hlt), List.getElem?_eq_getElem _⟩
      obtain ⟨q0, q1, q2, q3, q4, q5⟩ := HC.out k c hck
      have ho := HO.out c (List.mem_of_getElem? hck)
      have HK : Hid (cs[k]? = some c) := hck
      clear hck
      have cc : ∀ j, wr.cell? ⟨b, j, none⟩ = w.cell? ⟨b, j, none⟩ := fun j => H3.out.2.cell (p := ⟨b, j, none⟩) hb
      rw [← cc] at q0 q1 q2 q3 q4 q5
      clear cc
      go_wp2_with fail
      refine (condS_any c.op c.pre c.ma c.mi c.pa c.pt _ ho.a0 ho.a1 ho.b0 ho.b1 ho.c0 ho.c1 ho.o1 ho.p1 (Tab.alloc (htab.belowSize H3.out.2) _)).mono ?_
      rintro e w1 ⟨rfl, hb1⟩
      have ht := H1.out k hlt
      have hf := H2.out k hlt
      have ct : w1.cell? ⟨w.heap.size, k, none⟩ = some (.string ⟨#[]⟩) := by
        rw [hb1.cell (p := ⟨w.heap.size, k, none⟩) (by have := H3.out.1; simp; omega), World.cell?_alloc_past _ _ _ (by exact H3.out.1), ht]
        simp
      have CT : Hid (w1.cell? ⟨w.heap.size, k, none⟩ = some (.string ⟨#[]⟩)) := ct
      have cf : w1.frozen? ⟨w.heap.size, k, none⟩ = false := by
        rw [hb1.frozen (p := ⟨w.heap.size, k, none⟩) (by have := H3.out.1; simp; omega), World.frozen?_alloc_past _ _ _ (by exact H3.out.1), hf]
      clear ht hf q0 q1 q2 q3 q4 q5
      go_wp2_with fail
      clear ct cf
      go_roundw
      case rel =>
        have hs1 := H3.out.1
        have hs2 := hb1.size
        simp at hs2
        refine ⟨k + 1, by omega, by go_num, ?_, ?_, ?_, ?_⟩
        · intro j hj
          by_cases e : j = k
          · subst e
            have : (cs.getD j Cnd.zero).str = condB c.op c.ma c.mi c.pa c.pre c.pt := by rw [List.getD_eq_getElem?_getD, HK.out]; rfl
            rw [World.cell?_setCell_same _ _ _ CT.out, if_pos (by omega), this]
          · rw [World.cell?_setCell_other _ _ _ _ (by simp), hb1.cell (p := ⟨w.heap.size, j, none⟩) (by simp; omega), World.cell?_alloc_past _ _ _ hs1, H1.out j hj]
            by_cases e2 : j < k
            · rw [if_pos e2, if_pos (by omega)]
            · rw [if_neg e2, if_neg (by omega)]
        · intro j hj
          rw [World.frozen?_setCell, hb1.frozen (p := ⟨w.heap.size, j, none⟩) (by simp; omega), World.frozen?_alloc_past _ _ _ hs1, H2.out j hj]
        · simp [World.setCell]; omega
        · exact ((H3.out.2.alloc (by omega) _).trans (hb1.mono (by simp; omega))).setCell (by simp) _
      case measure => simp [intOf]; omega
    · have hkn : k = n := by omega
      subst hkn
      have hj : ∀ j x, (cs.map Cnd.str)[j]? = some x → wr.cell? ⟨w.heap.size, 0 + j, none⟩ = some (.string x) := by
        intro j x hx
        rw [List.getElem?_map, Option.map_eq_some_iff] at hx
        obtain ⟨c, hc, rfl⟩ := hx
        have hl : j < k := by rw [HN.out]; exact (List.getElem?_eq_some_iff.1 hc).1
        rw [Nat.zero_add, H1.out j hl, if_pos hl, List.getD_eq_getElem?_getD, hc]; rfl
      have HJ : Hid (∀ j x, (cs.map Cnd.str)[j]? = some x → wr.cell? ⟨w.heap.size, 0 + j, none⟩ = some (.string x)) := hj
      clear hj H1 H2
      go_wp2_with fail
      have hkl : k = (cs.map Cnd.str).length := by rw [HN.out]; simp
      rw [hkl]
      have hjn : Calls Tryd.prog 15 #[.slice (some ⟨w.heap.size, 0, none⟩) (cs.map Cnd.str).length (cs.map Cnd.str).length, .string ⟨#[44, 32]⟩] wr fun e w' => e = .returned (.string (consB cs)) ∧ Below wr.heap.size wr w' :=
        join_any w.heap.size 0 _ (cs.map Cnd.str) ⟨#[44, 32]⟩ _ HJ.out H3.out.1 (by rw [← hkl]; omega) (Nat.le_refl _) (cons_len cs (by rw [← HN.out]; omega) HO.out)
      refine hjn.mono ?_
      clear hjn
      rintro e w2 ⟨rfl, hb2⟩
      go_wp2_with fail
      go_ret
      exact ⟨rfl, H3.out.2.trans (hb2.mono (by have := H3.out.1; omega))⟩
end Go.Proofs.Qxb6628649aDoor
