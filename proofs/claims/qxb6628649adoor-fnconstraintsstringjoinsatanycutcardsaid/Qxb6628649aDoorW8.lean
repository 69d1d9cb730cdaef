import Derived.Test.Qxb6628649aDoorW5
import Derived.Deep.QuietTactic
import Derived.BigQuiet
namespace Go.Proofs.Qxb6628649aDoor
open Go.RowKit

theorem below_drewN' (w : World) (n : Nat) : Below w.heap.size w (w.drewN n) := below_drewN (Below.refl _ _) n

set_option maxHeartbeats 400000 in
theorem prefix_any (s p : ByteArray) (w : World) (hs : s.size ≤ 9223372036854775807) (hp : p.size ≤ s.size) (hpre : ∀ k (h1 : k < s.size) (h2 : k < p.size), s[k] = p[k]) :
    Calls Tryd.prog 10 #[.string s, .string p] w fun e w' => e = .returned (.bool true) ∧ Below w.heap.size w w' := by
  have HP : Hid (∀ k (h1 : k < s.size) (h2 : k < p.size), s[k] = p[k]) := hpre
  clear hpre
  have hd : decide (s.size < p.size) = false := by simp; omega
  go_enter Tryd.func10, Tryd.ntmps10
  go_wp2
  go_loopw [5] (fun i wr => ∃ k : Nat, k ≤ p.size ∧ i = .int .i64 k ∧ Hid (Below w.heap.size w wr)) (fun i _ => p.size - (intOf i).toNat)
  case atStart => exact ⟨0, Nat.zero_le _, rfl, Below.refl _ _⟩
  case round =>
    obtain ⟨k, hk, rfl, HB⟩ := hrel
    by_cases hlt : k < p.size
    · have hls : k < s.size := by omega
      have e := HP.out k hls hlt
      have hne : ((s[k].toNat : Int) != (p[k].toNat : Int)) = false := by rw [e]; simp
      clear e
      go_wp2_with fail
      go_quiet (fail)
      go_wp2
      go_roundw
      case rel => exact ⟨k + 1, by omega, by go_num, below_drewN HB.out _⟩
      case measure => simp [intOf]; omega
    · go_wp2
      go_ret
      exact ⟨rfl, HB.out⟩

/-- A slice of conditions that came in: its elements lie there. -/
def ArgC (w : World) (ao : Option Addr) (cs : List Cnd) : Prop := cs = [] ∨ ∃ b o, ao = some ⟨b, o, none⟩ ∧ b < w.heap.size ∧ HoldsC w b o cs

theorem ArgC.below {w w' : World} {ao : Option Addr} {cs : List Cnd} (h : ArgC w ao cs) (hb : Below w.heap.size w w') : ArgC w' ao cs := by
  rcases h with h | ⟨b, o, h1, h2, h3⟩
  · exact .inl h
  · exact .inr ⟨b, o, h1, Nat.lt_of_lt_of_le h2 hb.size, h3.below hb h2⟩

theorem ArgC.at {w : World} {ao : Option Addr} {cs : List Cnd} (h : ArgC w ao cs) {k : Nat} (hk : k < cs.length) : ∃ b o c, cs[k]? = some c ∧ ao = some ⟨b, o, none⟩ ∧ b < w.heap.size ∧ HoldsC w b o cs := by
  rcases h with h | ⟨b, o, h1, h2, h3⟩
  · rw [h] at hk; simp at hk
  · exact ⟨b, o, cs[k], List.getElem?_eq_getElem hk, h1, h2, h3⟩

set_option maxHeartbeats 1000000 in
theorem condBytes_any (cs : List Cnd) (ao : Option Addr) (cap : Nat) (start : Int) (w : World) (hn : cs.length ≤ 1048576) (hA : ArgC w ao cs) (hok : ∀ c ∈ cs, c.op.size ≤ 1048576 ∧ c.pre.size ≤ 1048576) :
    Calls Tryd.prog 6 #[.slice ao cs.length cap, .int .i64 start] w fun e w' => (∃ t, e = .returned (.int .i64 t)) ∧ Below w.heap.size w w' := by
  have HA : Hid (ArgC w ao cs) := hA
  have HO : Hid (∀ c ∈ cs, c.op.size ≤ 1048576 ∧ c.pre.size ≤ 1048576) := hok
  clear hA hok
  obtain ⟨n, hcn⟩ : ∃ n, n = cs.length := ⟨_, rfl⟩
  have HN : Hid (n = cs.length) := hcn
  rw [← hcn] at hn ⊢
  clear hcn
  go_enter Tryd.func6, Tryd.ntmps6
  go_wp2
  go_loopw [5, 6] (fun t i wr => ∃ (k : Nat) (v : Int), k ≤ n ∧ i = .int .i64 k ∧ t = .int .i64 v ∧ Hid (Below w.heap.size w wr)) (fun _ i _ => n - (intOf i).toNat)
  case atStart => exact ⟨0, start, Nat.zero_le _, rfl, rfl, Below.refl _ _⟩
  case round =>
    obtain ⟨k, v, hk, rfl, rfl, HB⟩ := hrel
    by_cases hlt : k < n
    · obtain ⟨b, o, c, hck, rfl, hb, hC⟩ := HA.out.at (k := k) (by rw [← HN.out]; exact hlt)
      have q0 := (hC k c hck).1
      have q4 := (hC k c hck).2.2.2.2.1
      obtain ⟨ho, hp⟩ := HO.out c (List.mem_of_getElem? hck)
      have HK : Hid (cs[k]? = some c) := hck
      clear hck hC
      have cc : ∀ j, wr.cell? ⟨b, j, none⟩ = w.cell? ⟨b, j, none⟩ := fun j => HB.out.cell (p := ⟨b, j, none⟩) hb
      rw [← cc] at q0 q4
      clear cc
      go_wp2_with fail
      go_quiet (fail)
      go_wp2
      · go_ret
        exact ⟨⟨_, rfl⟩, below_drewN HB.out _⟩
      · go_roundw
        case rel => exact ⟨k + 1, _, by omega, by go_num, rfl, below_drewN HB.out _⟩
        case measure => simp [intOf]; omega
    · go_wp2
      go_ret
      exact ⟨⟨_, rfl⟩, HB.out⟩

def Short (cs : List Cnd) (k : Nat) : Prop := ∀ j c, j < k → cs[j]? = some c → c.op.size ≤ 1048576 ∧ c.pre.size ≤ 1048576

theorem Short.succ {cs : List Cnd} {k : Nat} (h : Short cs k) {c : Cnd} (hc : cs[k]? = some c) (h1 : c.op.size ≤ 1048576) (h2 : c.pre.size ≤ 1048576) : Short cs (k + 1) := by
  intro j d hj hd
  by_cases e : j = k
  · subst e
    obtain rfl : c = d := Option.some.inj (hc.symm.trans hd)
    exact ⟨h1, h2⟩
  · exact h j d (by omega) hd

theorem Short.all {cs : List Cnd} (h : Short cs cs.length) : ∀ c ∈ cs, c.op.size ≤ 1048576 ∧ c.pre.size ≤ 1048576 := by
  intro c hc
  obtain ⟨j, hj, e⟩ := List.getElem_of_mem hc
  exact h j c hj (by rw [List.getElem?_eq_getElem hj, e])

/-- What a guard says: if it answers true, P holds. -/
def Guard (P : Prop) (w : World) (e : Ending) (w' : World) : Prop := ∃ r, e = .returned (.bool r) ∧ (r = true → P) ∧ w' = w

theorem Guard.no {P : Prop} {w : World} : Guard P w (.returned (.bool false)) w := ⟨false, rfl, by simp, rfl⟩
theorem Guard.yes {P : Prop} {w : World} (h : P) : Guard P w (.returned (.bool true)) w := ⟨true, rfl, fun _ => h, rfl⟩

set_option maxHeartbeats 2000000 in
theorem lens_any (xs ys : List Cnd) (ao bo : Option Addr) (ca cb n m : Nat) (w : World) (hna : n ≤ maxLen) (hnb : m ≤ maxLen) (HN : Hid (n = xs.length)) (HM : Hid (m = ys.length)) (HA : Hid (ArgC w ao xs)) (HB : Hid (ArgC w bo ys))
    (hoa : ∀ c ∈ xs, c.op.size ≤ maxLen ∧ c.pre.size ≤ maxLen) (hob : ∀ c ∈ ys, c.op.size ≤ maxLen ∧ c.pre.size ≤ maxLen) :
    Calls Tryd.prog 5 #[.slice ao n ca, .slice bo m cb] w (Guard (n + m ≤ 1048576 ∧ Short xs n ∧ Short ys m) w) := by
  unfold maxLen at hna hnb hoa hob
  have HOA : Hid (∀ c ∈ xs, c.op.size ≤ 9223372036854775807 ∧ c.pre.size ≤ 9223372036854775807) := hoa
  have HOB : Hid (∀ c ∈ ys, c.op.size ≤ 9223372036854775807 ∧ c.pre.size ≤ 9223372036854775807) := hob
  clear hoa hob
  by_cases g1 : n ≤ 1048576
  · go_enter Tryd.func5, Tryd.ntmps5
    go_wp2
    go_loop [5, 6] (fun t i => ∃ (k : Nat) (v : Int), k ≤ n ∧ i = .int .i64 k ∧ t = .int .i64 v ∧ n ≤ v ∧ v ≤ 1048576 ∧ Hid (Short xs k)) (fun _ i => n - (intOf i).toNat)
    case atStart => exact ⟨0, n, Nat.zero_le _, rfl, rfl, by omega, by omega, fun j c hj => by omega⟩
    case round =>
      obtain ⟨k, v, hk, rfl, rfl, hv0, hv1, HS⟩ := hrel
      by_cases hlt : k < n
      · obtain ⟨b, o, c, hck, rfl, hb, hC⟩ := HA.out.at (k := k) (by rw [← HN.out]; exact hlt)
        have q0 := (hC k c hck).1
        have q4 := (hC k c hck).2.2.2.2.1
        obtain ⟨ho, hp⟩ := HOA.out c (List.mem_of_getElem? hck)
        have HK : Hid (xs[k]? = some c) := hck
        clear hck hC
        go_wp2
        all_goals
          first
            | (go_ret; exact Guard.no)
            | (go_round
               case rel => exact ⟨k + 1, _, by omega, by go_num, rfl, by omega, by omega, HS.out.succ HK.out (by omega) (by omega)⟩
               case measure => simp [intOf]; omega)
      · have hkn : k = n := by omega
        subst hkn
        by_cases g2 : m ≤ 1048576
        · by_cases g3 : v + m ≤ 1048576
          · go_wp2
            go_loop [5, 7] (fun t i => ∃ (k : Nat) (v : Int), k ≤ m ∧ i = .int .i64 k ∧ t = .int .i64 v ∧ 0 ≤ v ∧ v ≤ 1048576 ∧ Hid (Short ys k)) (fun _ i => m - (intOf i).toNat)
            case atStart => exact ⟨0, _, Nat.zero_le _, rfl, rfl, by omega, by omega, fun j c hj => by omega⟩
            case round =>
              obtain ⟨l, u, hl, rfl, rfl, hu0, hu1, HS2⟩ := hrel
              by_cases hlt2 : l < m
              · obtain ⟨b, o, c, hck, rfl, hb, hC⟩ := HB.out.at (k := l) (by rw [← HM.out]; exact hlt2)
                have q0 := (hC l c hck).1
                have q4 := (hC l c hck).2.2.2.2.1
                obtain ⟨ho, hp⟩ := HOB.out c (List.mem_of_getElem? hck)
                have HK : Hid (ys[l]? = some c) := hck
                clear hck hC
                go_wp2
                all_goals
                  first
                    | (go_ret; exact Guard.no)
                    | (go_round
                       case rel => exact ⟨l + 1, _, by omega, by go_num, rfl, by omega, by omega, HS2.out.succ HK.out (by omega) (by omega)⟩
                       case measure => simp [intOf]; omega)
              · have hlm : l = m := by omega
                subst hlm
                go_wp2
                go_ret
                exact Guard.yes ⟨by omega, HS.out, HS2.out⟩
          · go_wp2
            go_ret
            exact Guard.no
        · go_wp2
          go_ret
          exact Guard.no
  · go_enter Tryd.func5, Tryd.ntmps5
    go_wp2
    go_ret
    exact Guard.no

end Go.Proofs.Qxb6628649aDoor
