/-
  Plain facts, no Go in sight: doubling the escaped bytes of a text, and reading it back.
-/
namespace Go.Proofs.Qxb6605595a.Plain

/-- is c written twice? -/
def esc (all : Bool) (c : UInt8) : Bool := c == 36 || (all && c == 92)

/-- every such byte twice -/
def dbl (all : Bool) : List UInt8 → List UInt8
  | [] => []
  | c :: r => if esc all c = true then c :: c :: dbl all r else c :: dbl all r

theorem dbl_append (all : Bool) : ∀ l r : List UInt8, dbl all (l ++ r) = dbl all l ++ dbl all r
  | [], r => rfl
  | c :: l, r => by
    simp only [List.cons_append, dbl, dbl_append all l r]
    split <;> simp

theorem dbl_length (all : Bool) : ∀ l : List UInt8, l.length ≤ (dbl all l).length ∧ (dbl all l).length ≤ 2 * l.length
  | [] => by simp [dbl]
  | c :: l => by
    have := dbl_length all l
    simp only [dbl]
    split <;> simp <;> omega

theorem dbl_snoc_yes {all : Bool} {l : List UInt8} {c : UInt8} (h : esc all c = true) : dbl all (l ++ [c]) = dbl all l ++ [c] ++ [c] := by
  simp [dbl_append, dbl, h]
theorem dbl_snoc_no {all : Bool} {l : List UInt8} {c : UInt8} (h : esc all c = false) : dbl all (l ++ [c]) = dbl all l ++ [c] := by
  simp [dbl_append, dbl, h]

theorem take_snoc (l : List UInt8) (k : Nat) (c : UInt8) (h : l[k]? = some c) : l.take (k + 1) = l.take k ++ [c] := by
  obtain ⟨hk, e⟩ := List.getElem?_eq_some_iff.1 h
  rw [List.take_succ_eq_append_getElem hk, e]

/-- what is left of the doubled text behind the first j bytes -/
theorem rest_eq (all : Bool) (l : List UInt8) (j : Nat) : (dbl all l).drop (dbl all (l.take j)).length = dbl all (l.drop j) := by
  conv => lhs; arg 2; rw [← List.take_append_drop j l]
  rw [dbl_append, List.drop_left]

theorem pos_lt {all : Bool} {l : List UInt8} {j : Nat} (h : j < l.length) : (dbl all (l.take j)).length < (dbl all l).length := by
  have e := rest_eq all l j
  have hl := congrArg List.length e
  rw [List.length_drop] at hl
  have := (dbl_length all (l.drop j)).1
  rw [List.length_drop] at this
  omega

theorem pos_end {all : Bool} {l : List UInt8} {j : Nat} (h : ¬ j < l.length) : (dbl all (l.take j)).length = (dbl all l).length := by
  rw [List.take_of_length_le (by omega)]

/-- at an escaped byte: it stands there twice -/
theorem rest_yes {all : Bool} {l : List UInt8} {j : Nat} {c : UInt8} (h : l[j]? = some c) (he : esc all c = true) :
    (dbl all l).drop (dbl all (l.take j)).length = c :: c :: dbl all (l.drop (j + 1)) := by
  obtain ⟨hj, e⟩ := List.getElem?_eq_some_iff.1 h
  rw [rest_eq, List.drop_eq_getElem_cons hj, e]
  simp [dbl, he]
theorem rest_no {all : Bool} {l : List UInt8} {j : Nat} {c : UInt8} (h : l[j]? = some c) (he : esc all c = false) :
    (dbl all l).drop (dbl all (l.take j)).length = c :: dbl all (l.drop (j + 1)) := by
  obtain ⟨hj, e⟩ := List.getElem?_eq_some_iff.1 h
  rw [rest_eq, List.drop_eq_getElem_cons hj, e]
  simp [dbl, he]

theorem pos_yes {all : Bool} {l : List UInt8} {j : Nat} {c : UInt8} (h : l[j]? = some c) (he : esc all c = true) : (dbl all (l.take (j + 1))).length = (dbl all (l.take j)).length + 2 := by
  rw [take_snoc l j c h, dbl_snoc_yes he]; simp
theorem pos_no {all : Bool} {l : List UInt8} {j : Nat} {c : UInt8} (h : l[j]? = some c) (he : esc all c = false) : (dbl all (l.take (j + 1))).length = (dbl all (l.take j)).length + 1 := by
  rw [take_snoc l j c h, dbl_snoc_no he]; simp

theorem get_of_drop {t : List UInt8} {p : Nat} {c : UInt8} {r : List UInt8} (h : t.drop p = c :: r) : t[p]? = some c := by
  have := congrArg (fun l => l[0]?) h
  simpa using this
end Go.Proofs.Qxb6605595a.Plain
