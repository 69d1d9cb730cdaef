import Derived.Test.Qxb6628755aW2
namespace Go.Proofs.Qxb6628755a
open Go.RowKit

/-- What fieldsBytes answers. -/
def Cnt (n : Nat) (w : World) (e : Ending) (w' : World) : Prop := ∃ r : Int, e = .returned (.int .i64 r) ∧ 0 ≤ r ∧ r ≤ 4194304 ∧ (r ≤ 1048576 → n ≤ 65536) ∧ w' = w

set_option maxHeartbeats 1000000 in
theorem fields_any (so : Option Addr) (cap n : Nat) (xs : List F) (w : World) (hn : n ≤ 9223372036854775807) (HN : Hid (n = xs.length)) (HA : Hid (ArgF w w.heap.size so xs)) :
    Calls Try.prog 6 #[.slice so n cap] w (Cnt n w) := by
  by_cases h16 : n ≤ 65536
  · go_enter Try.func6, Try.ntmps6
    go_wp2
    go_loop [3, 4] (fun t i => ∃ (k : Nat) (v : Int), k ≤ n ∧ i = .int .i64 k ∧ t = .int .i64 v ∧ 0 ≤ v ∧ v ≤ 1048576) (fun _ i => n - (intOf i).toNat)
    case atStart => exact ⟨0, 0, Nat.zero_le _, rfl, rfl, by omega, by omega⟩
    case round =>
      obtain ⟨k, v, hk, rfl, rfl, v0, v1⟩ := hrel
      by_cases hlt : k < n
      · obtain ⟨b, o, f, hf, rfl, hb, q0, q1⟩ := HA.out.at (k := k) (by rw [← HN.out]; exact hlt)
        clear q0 hf
        obtain ⟨s, hs⟩ : ∃ s, s = f.v := ⟨_, rfl⟩
        rw [← hs] at q1
        clear hs
        by_cases hs1 : s.size ≤ 1048576
        · by_cases hs2 : v + 24 + s.size ≤ 1048576
          · go_wp2
            go_round
            case rel => exact ⟨k + 1, v + 24 + s.size, by omega, by go_num, by go_num, by omega, by omega⟩
            case measure => simp [intOf]; omega
          · go_wp2
            go_ret
            exact ⟨_, rfl, by omega, by omega, fun _ => h16, rfl⟩
        · go_wp2
          go_ret
          exact ⟨_, rfl, by omega, by omega, fun h => by omega, rfl⟩
      · go_wp2
        go_ret
        exact ⟨_, rfl, by omega, by omega, fun _ => h16, rfl⟩
  · go_enter Try.func6, Try.ntmps6
    go_wp2
    go_ret
    exact ⟨_, rfl, by omega, by omega, fun h => by omega, rfl⟩

/-- What a guard answers. -/
def Says (w : World) (e : Ending) (w' : World) : Prop := ∃ r : Bool, e = .returned (.bool r) ∧ Below w.heap.size w w'

set_option maxHeartbeats 4000000 in
theorem bytes5_any (so bo : Option Addr) (ca cb n m : Nat) (tag : Int) (v : ByteArray) (xs ys : List F) (w : World) (hn : n ≤ 9223372036854775807) (hm : m ≤ 9223372036854775807) (HN : Hid (n = xs.length)) (HM : Hid (m = ys.length)) (HA : Hid (ArgF w w.heap.size so xs)) (HB : Hid (ArgF w w.heap.size bo ys)) :
    Calls Try.prog 5 #[.slice so n ca, .slice bo m cb, .int .i64 tag, .string v] w (Says w) := by
  by_cases h1 : n ≤ 1048576
  · go_enter Try.func5, Try.ntmps5
    go_wp2
    go_loop [9, 10] (fun t i => ∃ (k : Nat) (z : Int), k ≤ n ∧ i = .int .i64 k ∧ t = .int .i64 z ∧ 0 ≤ z ∧ z ≤ 1048576) (fun _ i => n - (intOf i).toNat)
    case atStart => exact ⟨0, _, Nat.zero_le _, rfl, rfl, by omega, by omega⟩
    case round =>
      obtain ⟨k, z, hk, rfl, rfl, z0, z1⟩ := hrel
      by_cases hlt : k < n
      · obtain ⟨b, o, f, hf, rfl, hb, q0, q1⟩ := HA.out.at (k := k) (by rw [← HN.out]; exact hlt)
        clear q0 hf
        obtain ⟨s, hs⟩ : ∃ s, s = f.v := ⟨_, rfl⟩
        rw [← hs] at q1
        clear hs
        by_cases hs1 : s.size ≤ 1048576
        · by_cases hs2 : z + s.size ≤ 1048576
          · go_wp2
            go_round
            case rel => exact ⟨k + 1, z + s.size, by omega, by go_num, by go_num, by omega, by omega⟩
            case measure => simp [intOf]; omega
          · go_wp2
            go_ret
            exact ⟨_, rfl, Below.refl _ _⟩
        · go_wp2
          go_ret
          exact ⟨_, rfl, Below.refl _ _⟩
      · by_cases h2 : m ≤ 1048576
        · by_cases h3 : z + m ≤ 1048576
          · go_wp2
            go_loop [9, 11] (fun t i => ∃ (k : Nat) (z : Int), k ≤ m ∧ i = .int .i64 k ∧ t = .int .i64 z ∧ 0 ≤ z ∧ z ≤ 1048576) (fun _ i => m - (intOf i).toNat)
            case atStart => exact ⟨0, _, Nat.zero_le _, rfl, rfl, by omega, by omega⟩
            case round =>
              obtain ⟨k', z', hk', rfl, rfl, z0', z1'⟩ := hrel
              by_cases hlt' : k' < m
              · obtain ⟨b, o, f, hf, rfl, hb, q0, q1⟩ := HB.out.at (k := k') (by rw [← HM.out]; exact hlt')
                clear q0 hf
                obtain ⟨s, hs⟩ : ∃ s, s = f.v := ⟨_, rfl⟩
                rw [← hs] at q1
                clear hs
                by_cases hs1 : s.size ≤ 1048576
                · by_cases hs2 : z' + s.size ≤ 1048576
                  · go_wp2
                    go_round
                    case rel => exact ⟨k' + 1, z' + s.size, by omega, by go_num, by go_num, by omega, by omega⟩
                    case measure => simp [intOf]; omega
                  · go_wp2
                    go_ret
                    exact ⟨_, rfl, Below.refl _ _⟩
                · go_wp2
                  go_ret
                  exact ⟨_, rfl, Below.refl _ _⟩
              · go_wp2
                all_goals
                  go_ret
                  exact ⟨_, rfl, Below.refl _ _⟩
          · go_wp2
            go_ret
            exact ⟨_, rfl, Below.refl _ _⟩
        · go_wp2
          go_ret
          exact ⟨_, rfl, Below.refl _ _⟩
  · go_enter Try.func5, Try.ntmps5
    go_wp2
    go_ret
    exact ⟨_, rfl, Below.refl _ _⟩
end Go.Proofs.Qxb6628755a
