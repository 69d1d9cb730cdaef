import Derived.Test.Qxb6628649aDoorPlain
namespace Go.Proofs.Qxb6628649aDoor

theorem ba_ext {a b : ByteArray} (h : a.data.toList = b.data.toList) : a = b := by
  cases a; cases b; simp at h; simp [h]

theorem data_append (a b : ByteArray) : (a ++ b).data.toList = a.data.toList ++ b.data.toList := by
  rw [ByteArray.data_append, Array.toList_append]

theorem joinTail_append (sep : List UInt8) (r t : List (List UInt8)) : Lib.joinTail sep (r ++ t) = Lib.joinTail sep r ++ Lib.joinTail sep t := by
  simp [Lib.joinTail]

theorem join_append (x y : List UInt8) (r t : List (List UInt8)) (sep : List UInt8) : Lib.join ((x :: r) ++ (y :: t)) sep = Lib.join (x :: r) sep ++ sep ++ Lib.join (y :: t) sep := by
  rw [List.cons_append, Lib.join_cons, Lib.join_cons, Lib.join_cons, joinTail_append]
  simp [Lib.joinTail, List.append_assoc]

theorem consB_data (cs : List Cnd) : (consB cs).data.toList = Lib.join ((cs.map Cnd.str).map (·.data.toList)) [44, 32] := by
  simp [consB]

theorem consB_nil : consB [] = ⟨#[]⟩ := by
  apply ba_ext; rw [consB_data]; rfl

theorem consB_append (c d : Cnd) (r t : List Cnd) : consB ((c :: r) ++ (d :: t)) = consB (c :: r) ++ ⟨#[44, 32]⟩ ++ consB (d :: t) := by
  apply ba_ext
  rw [data_append, data_append, consB_data, consB_data, consB_data]
  have := join_append c.str.data.toList d.str.data.toList ((r.map Cnd.str).map (·.data.toList)) ((t.map Cnd.str).map (·.data.toList)) [44, 32]
  simpa using this

theorem consB_cons (c : Cnd) (r : List Cnd) : ∃ z, consB (c :: r) = c.str ++ z := by
  refine ⟨⟨(Lib.joinTail [44, 32] ((r.map Cnd.str).map (·.data.toList))).toArray⟩, ?_⟩
  apply ba_ext
  rw [data_append, consB_data]
  have := Lib.join_cons c.str.data.toList ((r.map Cnd.str).map (·.data.toList)) [44, 32]
  simpa using this

theorem verB_head (ma mi pa : Int) (pre : ByteArray) (pt : Int) : ∃ z, verB ma mi pa pre pt = itoaB ma ++ z := by
  have h0 : ∀ a : ByteArray, ∃ z, a = a ++ z := fun a => ⟨⟨#[]⟩, by apply ba_ext; rw [data_append]; simp⟩
  have h1 : ∀ s a b : ByteArray, (∃ z, s = a ++ z) → ∃ z, s ++ b = a ++ z := fun s a b ⟨z, hz⟩ => ⟨z ++ b, by rw [hz, ByteArray.append_assoc]⟩
  have s1 : ∃ z, (if 2 ≤ pt then itoaB ma ++ ((⟨#[46]⟩ : ByteArray) ++ itoaB mi) else itoaB ma) = itoaB ma ++ z := by
    split
    · exact ⟨_, rfl⟩
    · exact h0 _
  have s2 : ∃ z, (if 3 ≤ pt then (if 2 ≤ pt then itoaB ma ++ ((⟨#[46]⟩ : ByteArray) ++ itoaB mi) else itoaB ma) ++ ((⟨#[46]⟩ : ByteArray) ++ itoaB pa) else (if 2 ≤ pt then itoaB ma ++ ((⟨#[46]⟩ : ByteArray) ++ itoaB mi) else itoaB ma)) = itoaB ma ++ z := by
    split
    · exact h1 _ _ _ s1
    · exact s1
  unfold verB
  dsimp only
  by_cases e : pre.toList.isEmpty = true
  · rw [if_pos e]; exact s2
  · rw [if_neg e]; exact h1 _ _ _ s2

/-- The head of a condition's text. -/
theorem str_head_eq (c : Cnd) (h : (c.op.toList == [61]) = true) : ∃ z, c.str = itoaB c.ma ++ z := by
  rw [Cnd.str, condB, if_pos h]; exact verB_head _ _ _ _ _
theorem str_head_ne (c : Cnd) (h : (c.op.toList == [61]) = false) : ∃ z, c.str = c.op ++ ⟨#[32]⟩ ++ itoaB c.ma ++ z := by
  obtain ⟨z, hz⟩ := verB_head c.ma c.mi c.pa c.pre c.pt
  rw [Cnd.str, condB, if_neg (by rw [h]; decide), hz]
  exact ⟨z, by simp only [ByteArray.append_assoc]⟩

theorem cons_head_eq (c : Cnd) (r : List Cnd) (h : (c.op.toList == [61]) = true) : ∃ z, consB (c :: r) = itoaB c.ma ++ z := by
  obtain ⟨y, hy⟩ := consB_cons c r
  obtain ⟨z, hz⟩ := str_head_eq c h
  exact ⟨z ++ y, by rw [hy, hz, ByteArray.append_assoc]⟩
theorem cons_head_ne (c : Cnd) (r : List Cnd) (h : (c.op.toList == [61]) = false) : ∃ z, consB (c :: r) = c.op ++ ⟨#[32]⟩ ++ itoaB c.ma ++ z := by
  obtain ⟨y, hy⟩ := consB_cons c r
  obtain ⟨z, hz⟩ := str_head_ne c h
  exact ⟨z ++ y, by rw [hy, hz, ByteArray.append_assoc]⟩

theorem append_pre (p z : ByteArray) : p.size ≤ (p ++ z).size ∧ ∀ k (h1 : k < (p ++ z).size) (h2 : k < p.size), (p ++ z)[k] = p[k] := by
  refine ⟨by rw [ByteArray.size_append]; omega, fun k h1 h2 => ?_⟩
  exact ByteArray.getElem_append_left h2

theorem consB_size (cs : List Cnd) (hn : cs.length ≤ 1048576) (hok : ∀ c ∈ cs, c.Ok) : (consB cs).size ≤ 140737488355328 := by
  have := cons_len cs hn hok
  rw [Lib.size_eq, consB_data]
  exact this

end Go.Proofs.Qxb6628649aDoor
