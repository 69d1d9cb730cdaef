import Derived.Test.Qxb6628755aRows
import Derived.WalkKit
import Derived.WalkSpells
import Derived.WalkSmall
import Derived.Deep.QuietTactic
import Derived.BigQuiet
namespace Go.Proofs.Qxb6628755a
open Go.RowKit

/-- One field. -/
structure F where
  t : Int
  v : ByteArray

def get (tag : Int) : List F → ByteArray × Bool
  | [] => (⟨#[]⟩, false)
  | f :: r => if f.t = tag then (f.v, true) else get tag r

def HoldsF (w : World) (b o : Nat) (xs : List F) : Prop := ∀ k f, xs[k]? = some f → w.cell? ⟨b, o + k * 2, none⟩ = some (.int .i64 f.t) ∧ w.cell? ⟨b, o + k * 2 + 1, none⟩ = some (.string f.v)
def ArgF (w : World) (L : Nat) (so : Option Addr) (xs : List F) : Prop := xs = [] ∨ ∃ b o, so = some ⟨b, o, none⟩ ∧ b < L ∧ HoldsF w b o xs

theorem ArgF.at {w : World} {L : Nat} {so : Option Addr} {xs : List F} (h : ArgF w L so xs) {k : Nat} (hk : k < xs.length) :
    ∃ b o f, xs[k]? = some f ∧ so = some ⟨b, o, none⟩ ∧ b < L ∧ w.cell? ⟨b, o + k * 2, none⟩ = some (.int .i64 f.t) ∧ w.cell? ⟨b, o + k * 2 + 1, none⟩ = some (.string f.v) := by
  rcases h with rfl | ⟨b, o, h1, h2, h3⟩
  · simp at hk
  · have hf : xs[k]? = some (xs[k]) := List.getElem?_eq_getElem hk
    exact ⟨b, o, _, hf, h1, h2, h3 k _ hf⟩

theorem ArgF.below {w w' : World} {L : Nat} {so : Option Addr} {xs : List F} (h : ArgF w L so xs) (hb : Below L w w') : ArgF w' L so xs := by
  rcases h with rfl | ⟨b, o, h1, h2, h3⟩
  · exact .inl rfl
  · exact .inr ⟨b, o, h1, h2, fun k f hf => ⟨(hb.cell (p := ⟨b, _, none⟩) h2).trans (h3 k f hf).1, (hb.cell (p := ⟨b, _, none⟩) h2).trans (h3 k f hf).2⟩⟩

theorem ArgF.mono {w : World} {L L' : Nat} {so : Option Addr} {xs : List F} (h : ArgF w L so xs) (hL : L ≤ L') : ArgF w L' so xs := by
  rcases h with rfl | ⟨b, o, h1, h2, h3⟩
  · exact .inl rfl
  · exact .inr ⟨b, o, h1, Nat.lt_of_lt_of_le h2 hL, h3⟩

theorem drop_cons {xs : List F} {k : Nat} {f : F} (h : xs[k]? = some f) : xs.drop k = f :: xs.drop (k + 1) := by
  obtain ⟨hk, rfl⟩ := List.getElem?_eq_some_iff.1 h
  exact List.drop_eq_getElem_cons hk

set_option maxHeartbeats 1000000 in
theorem get_any (so : Option Addr) (cap n : Nat) (tag : Int) (xs : List F) (w : World) (hn : n ≤ 2097152) (HN : Hid (n = xs.length)) (HA : Hid (ArgF w w.heap.size so xs)) :
    Calls Try.prog 8 #[.slice so n cap, .int .i64 tag] w fun e w' => e = .returned (.tuple #[.string (get tag xs).1, .bool (get tag xs).2]) ∧ Below w.heap.size w w' := by
  obtain ⟨g, hg⟩ : ∃ g, g = get tag xs := ⟨_, rfl⟩
  have HG : Hid (g = get tag xs) := hg
  rw [← hg]
  clear hg
  go_enter Try.func8, Try.ntmps8
  go_wp2
  go_loopw [10] (fun vi wr => ∃ i : Nat, vi = .int .i64 i ∧ i ≤ n ∧ Hid (g = get tag (xs.drop i)) ∧ Hid (Below w.heap.size w wr)) (fun i _ => n - (intOf i).toNat)
  case atStart => exact ⟨0, rfl, Nat.zero_le _, HG, Below.refl _ _⟩
  case round =>
    obtain ⟨i, rfl, hi, HD, HB⟩ := hrel
    by_cases hlt : i < n
    · obtain ⟨b, o, f, hf, rfl, hb, q0, q1⟩ := HA.out.at (k := i) (by rw [← HN.out]; exact hlt)
      have c0 := (HB.out.cell (p := ⟨b, o + i * 2, none⟩) hb).trans q0
      have c1 := (HB.out.cell (p := ⟨b, o + i * 2 + 1, none⟩) hb).trans q1
      clear q0 q1
      have HD' : Hid (g = if f.t = tag then (f.v, true) else get tag (xs.drop (i + 1))) := by
        have h := HD.out
        rw [drop_cons hf] at h
        exact h
      clear hf
      obtain ⟨t, v⟩ := f
      dsimp only at c0 c1 HD'
      by_cases ht : t = tag
      · have hg2 := HD'.out
        rw [if_pos ht] at hg2
        subst ht
        subst hg2
        go_wp2
        go_ret2
        exact ⟨rfl, HB.out.alloc HB.out.size _⟩
      · have hg2 := HD'.out
        rw [if_neg ht] at hg2
        have HG2 : Hid (g = get tag (xs.drop (i + 1))) := hg2
        clear hg2 HD'
        go_wp2
        go_roundw
        case rel => exact ⟨i + 1, by go_num, by omega, HG2, HB.out.alloc HB.out.size _⟩
        case measure => simp [intOf]; omega
    · have hg2 : g = (⟨#[]⟩, false) := by
        have h := HD.out
        rw [List.drop_eq_nil_of_le (by rw [← HN.out]; omega)] at h
        exact h
      subst hg2
      go_wp2
      go_ret2
      exact ⟨rfl, HB.out⟩
end Go.Proofs.Qxb6628755a
