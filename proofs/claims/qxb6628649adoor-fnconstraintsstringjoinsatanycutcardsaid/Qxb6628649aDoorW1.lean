import Derived.Test.Qxb6628649aDoorRows
import Derived.Test.Qxb6628649aDoorPlain
import Derived.Test.Qxb6628649aDoorShelf
import Derived.WalkKit
import Derived.WalkSpells
import Derived.WalkLawsBesides
import Derived.Deep.RegionWith
namespace Go.Proofs.Qxb6628649aDoor
open Go.RowKit

theorem gPow : Tryd.prog.globalNamed "internal/strconv.uint64pow10" = some 1 := by kernel_rfl

/-- The table of the powers of ten lies where it lay. -/
def Tab (w : World) : Prop := Lib.TabIs Tryd.prog w "internal/strconv.uint64pow10" .u64 Lib.pow10Tab ∧ 1 < w.heap.size

theorem Tab.below {w w' : World} {B : Nat} (h : Tab w) (hb : Below B w w') (hB : 1 < B) : Tab w' :=
  ⟨var?_below hb gPow hB h.1, Nat.lt_of_lt_of_le h.2 hb.size⟩
theorem Tab.belowSize {w w' : World} (h : Tab w) (hb : Below w.heap.size w w') : Tab w' := h.below hb h.2
theorem Tab.drew {w : World} (h : Tab w) : Tab w.drew := ⟨h.1, h.2⟩
theorem Tab.alloc {w : World} (h : Tab w) (o : Obj) : Tab (w.alloc o) := h.belowSize ((Below.refl _ _).alloc (Nat.le_refl _) _)

set_option maxHeartbeats 400000 in
theorem cond_any (op pre : ByteArray) (ma mi pa pt : Int) (w : World) :
    Calls Tryd.prog 13 #[.agg #[.string op, .int .i64 ma, .int .i64 mi, .int .i64 pa, .string pre, .int .i64 pt]] w fun e w' => e = .returned (.agg #[.string op, .int .i64 ma, .int .i64 mi, .int .i64 pa, .string pre, .int .i64 pt]) ∧ Below w.heap.size w w' := by
  go_enter Tryd.func13, Tryd.ntmps13
  go_wp2
  exact bodyPost_ret (v := .agg #[.string op, .int .i64 ma, .int .i64 mi, .int .i64 pa, .string pre, .int .i64 pt]) (by simp [results, Tryd.results13, go_sem]) rfl ⟨rfl, ((Below.refl _ _).alloc (Nat.le_refl _) _).alloc (by simp) _⟩

theorem below_grown (w : World) (k : Nat) (os : Array Obj) : Below w.heap.size w (Sort.grow (w.drewN k) os) :=
  ⟨rfl, rfl, rfl, by simp [Sort.grow, World.drewN], fun k hk => by simp [Sort.grow, World.drewN, Array.getElem?_append, hk]⟩

theorem itoa_any (n : Int) (h0 : -9223372036854775808 ≤ n) (h1 : n ≤ 9223372036854775807) (w : World) (htab : Tab w) :
    Calls Tryd.prog 20 #[.int .i64 n] w fun e w' => e = .returned (.string (itoaB n)) ∧ Below w.heap.size w w' :=
  (Tryd.strconv_Itoa n h0 h1 w htab.1).mono fun _ _ ⟨he, k, os, hw⟩ => ⟨he, hw ▸ below_grown w k os⟩

set_option maxHeartbeats 1600000 in
theorem ver_any (pre : ByteArray) (ma mi pa pt : Int) (w : World)  (a0 : -9223372036854775808 ≤ ma) (a1 : ma ≤ 9223372036854775807) (b0 : -9223372036854775808 ≤ mi) (b1 : mi ≤ 9223372036854775807)
    (c0 : -9223372036854775808 ≤ pa) (c1 : pa ≤ 9223372036854775807) (hpre : pre.size ≤ 1048576) (htab : Tab w) :
    Calls Tryd.prog 16 #[.agg #[.int .i64 ma, .int .i64 mi, .int .i64 pa, .string pre, .int .i64 pt]] w fun e w' => e = .returned (.string (verB ma mi pa pre pt)) ∧ Below w.heap.size w w' := by
  have s1 := itoaB_size ma a0 a1
  have s2 := itoaB_size mi b0 b1
  have s3 := itoaB_size pa c0 c1
  by_cases h2 : 2 ≤ pt
  · by_cases h3 : 3 ≤ pt
    · cases hp : pre.toList.isEmpty
      all_goals
        go_enter Tryd.func16, Tryd.ntmps16
        go_wp2_with fail
        refine (itoa_any _ a0 a1 _ (htab.alloc _)).mono ?_
        rintro e w1 ⟨rfl, hb1⟩
        have ht1 := (htab.alloc _).belowSize hb1
        have hc : ∀ o, w1.cell? ⟨w.heap.size, o, none⟩ = _ := fun o => hb1.cell (p := ⟨w.heap.size, o, none⟩) (by simp)
        go_wp2_with fail
        refine (itoa_any _ b0 b1 _ ht1).mono ?_
        rintro e w2 ⟨rfl, hb2⟩
        have ht2 := ht1.belowSize hb2
        have hc2 : ∀ o, w2.cell? ⟨w.heap.size, o, none⟩ = _ := fun o => (hb2.cell (p := ⟨w.heap.size, o, none⟩) (by have := hb1.size; simp at this ⊢; omega)).trans (hc o)
        clear hc
        go_wp2_with fail
        refine (itoa_any _ c0 c1 _ ht2).mono ?_
        rintro e w3 ⟨rfl, hb3⟩
        have hc3 : ∀ o, w3.cell? ⟨w.heap.size, o, none⟩ = _ := fun o => (hb3.cell (p := ⟨w.heap.size, o, none⟩) (by have := hb1.size; have := hb2.size; simp at *; omega)).trans (hc2 o)
        clear hc2
        go_wp2_with fail
        go_ret
        refine ⟨?_, ?_⟩
        · show Ending.returned (Value.string _) = _
          simp only [verB, h2, h3, hp, if_true, if_false, Bool.false_eq_true]
        · have z1 := hb1.size
          have z2 := hb2.size
          simp at z1 z2
          exact (((Below.refl _ w).alloc (Nat.le_refl _) _).trans (hb1.mono (by simp))).trans ((hb2.mono (by omega)).trans (hb3.mono (by omega)))
    · cases hp : pre.toList.isEmpty
      all_goals
        go_enter Tryd.func16, Tryd.ntmps16
        go_wp2_with fail
        refine (itoa_any _ a0 a1 _ (htab.alloc _)).mono ?_
        rintro e w1 ⟨rfl, hb1⟩
        have ht1 := (htab.alloc _).belowSize hb1
        have hc : ∀ o, w1.cell? ⟨w.heap.size, o, none⟩ = _ := fun o => hb1.cell (p := ⟨w.heap.size, o, none⟩) (by simp)
        go_wp2_with fail
        refine (itoa_any _ b0 b1 _ ht1).mono ?_
        rintro e w2 ⟨rfl, hb2⟩
        have hc2 : ∀ o, w2.cell? ⟨w.heap.size, o, none⟩ = _ := fun o => (hb2.cell (p := ⟨w.heap.size, o, none⟩) (by have := hb1.size; simp at this ⊢; omega)).trans (hc o)
        clear hc
        go_wp2_with fail
        go_ret
        refine ⟨?_, ?_⟩
        · show Ending.returned (Value.string _) = _
          have n3 : ¬ 3 ≤ pt := by omega
          simp only [verB, h2, n3, hp, if_true, if_false, Bool.false_eq_true]
        · have z1 := hb1.size
          simp at z1
          exact (((Below.refl _ w).alloc (Nat.le_refl _) _).trans (hb1.mono (by simp))).trans (hb2.mono (by omega))
  · have h3 : ¬ 3 ≤ pt := by omega
    cases hp : pre.toList.isEmpty
    all_goals
      go_enter Tryd.func16, Tryd.ntmps16
      go_wp2_with fail
      refine (itoa_any _ a0 a1 _ (htab.alloc _)).mono ?_
      rintro e w1 ⟨rfl, hb1⟩
      have hc : ∀ o, w1.cell? ⟨w.heap.size, o, none⟩ = _ := fun o => hb1.cell (p := ⟨w.heap.size, o, none⟩) (by simp)
      go_wp2_with fail
      go_ret
      refine ⟨?_, ?_⟩
      · show Ending.returned (Value.string _) = _
        have n3 : ¬ 3 ≤ pt := by omega
        have n2 : ¬ 2 ≤ pt := by omega
        simp only [verB, n2, n3, hp, if_true, if_false, Bool.false_eq_true]
      · exact ((Below.refl _ w).alloc (Nat.le_refl _) _).trans (hb1.mono (by simp))

end Go.Proofs.Qxb6628649aDoor
