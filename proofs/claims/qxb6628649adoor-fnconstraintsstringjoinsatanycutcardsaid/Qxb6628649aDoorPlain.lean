import Derived.Lib.ItoaLen
import Derived.Lib.Join
namespace Go.Proofs.Qxb6628649aDoor

/-- A decimal numeral, as a string. -/
def itoaB (n : Int) : ByteArray := ⟨(Lib.itoa n).toArray⟩

theorem itoaB_size (n : Int) (h0 : -9223372036854775808 ≤ n) (h1 : n ≤ 9223372036854775807) : (itoaB n).size ≤ 21 := by
  have := Lib.itoa_length_le n h0 h1
  rw [Lib.size_eq]
  simpa [itoaB] using this

/-- The text of a version. -/
def verB (ma mi pa : Int) (pre : ByteArray) (pt : Int) : ByteArray :=
  let s1 := if 2 ≤ pt then itoaB ma ++ ((⟨#[46]⟩ : ByteArray) ++ itoaB mi) else itoaB ma
  let s2 := if 3 ≤ pt then s1 ++ ((⟨#[46]⟩ : ByteArray) ++ itoaB pa) else s1
  if pre.toList.isEmpty = true then s2 else s2 ++ ((⟨#[45]⟩ : ByteArray) ++ pre)

def condB (op : ByteArray) (ma mi pa : Int) (pre : ByteArray) (pt : Int) : ByteArray :=
  if (op.toList == [61]) = true then verB ma mi pa pre pt else op ++ (⟨#[32]⟩ : ByteArray) ++ verB ma mi pa pre pt

theorem one_size (c : UInt8) : (⟨#[c]⟩ : ByteArray).size = 1 := rfl

theorem verB_size (ma mi pa : Int) (pre : ByteArray) (pt : Int) (a0 : -9223372036854775808 ≤ ma) (a1 : ma ≤ 9223372036854775807) (b0 : -9223372036854775808 ≤ mi) (b1 : mi ≤ 9223372036854775807)
    (c0 : -9223372036854775808 ≤ pa) (c1 : pa ≤ 9223372036854775807) : (verB ma mi pa pre pt).size ≤ 66 + pre.size := by
  have h1 := itoaB_size ma a0 a1
  have h2 := itoaB_size mi b0 b1
  have h3 := itoaB_size pa c0 c1
  unfold verB
  by_cases e1 : 2 ≤ pt <;> by_cases e2 : 3 ≤ pt <;> by_cases e3 : pre.toList.isEmpty = true <;> simp only [e1, e2, e3, if_true, if_false, ByteArray.size_append, one_size] <;> simp [ByteArray.size_append, one_size] <;> omega

/-- One condition, as plain data. -/
structure Cnd where
  op : ByteArray
  ma : Int
  mi : Int
  pa : Int
  pre : ByteArray
  pt : Int

def Cnd.zero : Cnd := ⟨⟨#[]⟩, 0, 0, 0, ⟨#[]⟩, 0⟩
def Cnd.str (c : Cnd) : ByteArray := condB c.op c.ma c.mi c.pa c.pre c.pt

/-- Its numbers are ints, its strings are short. -/
structure Cnd.Ok (c : Cnd) : Prop where
  a0 : -9223372036854775808 ≤ c.ma
  a1 : c.ma ≤ 9223372036854775807
  b0 : -9223372036854775808 ≤ c.mi
  b1 : c.mi ≤ 9223372036854775807
  c0 : -9223372036854775808 ≤ c.pa
  c1 : c.pa ≤ 9223372036854775807
  o1 : c.op.size ≤ 1048576
  p1 : c.pre.size ≤ 1048576

theorem Cnd.str_size {c : Cnd} (h : c.Ok) : c.str.size ≤ 67 + c.op.size + c.pre.size := by
  have := verB_size c.ma c.mi c.pa c.pre c.pt h.a0 h.a1 h.b0 h.b1 h.c0 h.c1
  unfold Cnd.str condB
  split
  · omega
  · simp only [ByteArray.size_append, one_size]; omega

/-- The text of a list of conditions. -/
def consB (cs : List Cnd) : ByteArray := ⟨(Lib.join ((cs.map Cnd.str).map (·.data.toList)) (⟨#[44, 32]⟩ : ByteArray).data.toList).toArray⟩

theorem lens_le (M : Nat) : ∀ xs : List (List UInt8), (∀ x ∈ xs, x.length ≤ M) → Lib.lens xs ≤ xs.length * M
  | [], _ => by simp [Lib.lens]
  | x :: r, h => by
    have h1 := lens_le M r fun y hy => h y (List.mem_cons_of_mem _ hy)
    have h2 := h x (List.mem_cons_self ..)
    simp only [Lib.lens, List.map_cons, List.sum_cons, List.length_cons] at h1 ⊢
    rw [Nat.succ_mul]
    omega

theorem join_len (xs : List (List UInt8)) (M : Nat) (h : ∀ x ∈ xs, x.length ≤ M) (sep : List UInt8) : (Lib.join xs sep).length ≤ xs.length * (M + sep.length) := by
  cases xs with
  | nil => simp [Lib.join_nil]
  | cons x r =>
    rw [Lib.join_length]
    have := lens_le M (x :: r) h
    rw [Nat.mul_add]
    simp only [List.length_cons] at this ⊢
    have e : (r.length + 1) * sep.length = sep.length * r.length + sep.length := by rw [Nat.succ_mul, Nat.mul_comm]
    omega

theorem cons_len (cs : List Cnd) (hn : cs.length ≤ 1048576) (hok : ∀ c ∈ cs, c.Ok) : (Lib.join ((cs.map Cnd.str).map (·.data.toList)) (⟨#[44, 32]⟩ : ByteArray).data.toList).length ≤ 140737488355328 := by
  have h := join_len ((cs.map Cnd.str).map (·.data.toList)) 2097219 (by
    intro x hx
    simp only [List.map_map, List.mem_map, Function.comp] at hx
    obtain ⟨c, hc, rfl⟩ := hx
    have := Cnd.str_size (hok c hc)
    have h2 := (hok c hc).o1
    have h3 := (hok c hc).p1
    rw [← Lib.size_eq]
    omega) (⟨#[44, 32]⟩ : ByteArray).data.toList
  refine Nat.le_trans h ?_
  have e : ((cs.map Cnd.str).map (·.data.toList)).length = cs.length := by simp
  have e2 : (⟨#[44, 32]⟩ : ByteArray).data.toList.length = 2 := rfl
  rw [e, e2]
  omega

end Go.Proofs.Qxb6628649aDoor
