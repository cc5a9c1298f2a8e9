/-
  Plain facts: the order of strings by bytes, and which of two members is chosen as the victim.
-/
import GoSem.Op.String
namespace Go.Proofs.Qxb6614652a.Order

theorem bl_irrefl : ∀ x : List UInt8, Op.bytesLess x x = false
  | [] => rfl
  | a :: x => by simp [Op.bytesLess, bl_irrefl x]

theorem bl_trans : ∀ x y z : List UInt8, Op.bytesLess x y = true → Op.bytesLess y z = true → Op.bytesLess x z = true
  | _, [], _, h, _ => by simp [Op.bytesLess] at h
  | _, _ :: _, [], _, h => by simp [Op.bytesLess] at h
  | [], _ :: _, _ :: _, _, _ => by simp [Op.bytesLess]
  | a :: x, b :: y, c :: z, h, k => by
    simp only [Op.bytesLess, Bool.or_eq_true, Bool.and_eq_true, decide_eq_true_eq, beq_iff_eq] at h k ⊢
    rcases h with h | ⟨rfl, h⟩
    · rcases k with k | ⟨rfl, k⟩
      · exact .inl (UInt8.lt_trans h k)
      · exact .inl h
    · rcases k with k | ⟨rfl, k⟩
      · exact .inl k
      · exact .inr ⟨rfl, bl_trans x y z h k⟩

theorem bl_total : ∀ x y : List UInt8, x ≠ y → Op.bytesLess x y = true ∨ Op.bytesLess y x = true
  | [], [], h => absurd rfl h
  | [], _ :: _, _ => .inl (by simp [Op.bytesLess])
  | _ :: _, [], _ => .inr (by simp [Op.bytesLess])
  | a :: x, b :: y, h => by
    simp only [Op.bytesLess, Bool.or_eq_true, Bool.and_eq_true, decide_eq_true_eq, beq_iff_eq]
    by_cases e : a = b
    · subst e
      rcases bl_total x y (fun e => h (by rw [e])) with h | h
      · exact .inl (.inr ⟨rfl, h⟩)
      · exact .inr (.inr ⟨rfl, h⟩)
    · rcases Nat.lt_or_gt_of_ne (fun e' => e (UInt8.toNat_inj.1 e')) with h | h
      · exact .inl (.inl h)
      · exact .inr (.inl h)

/-- m goes before v: a lower priority; at the same the greater id -/
def better (m v : ByteArray × Int) : Prop := m.2 < v.2 ∨ (m.2 = v.2 ∧ Op.bytesLess v.1.toList m.1.toList = true)

theorem better_irrefl (m : ByteArray × Int) : ¬ better m m := by
  rintro (h | ⟨_, h⟩)
  · omega
  · rw [bl_irrefl] at h; cases h

theorem better_trans {a b c : ByteArray × Int} (h : better a b) (k : better b c) : better a c := by
  rcases h with h | ⟨h, h'⟩ <;> rcases k with k | ⟨k, k'⟩
  · exact .inl (by omega)
  · exact .inl (by omega)
  · exact .inl (by omega)
  · exact .inr ⟨by omega, bl_trans _ _ _ k' h'⟩

theorem better_total {a b : ByteArray × Int} (h : a.1.toList ≠ b.1.toList) : better a b ∨ better b a := by
  by_cases e : a.2 = b.2
  · rcases bl_total _ _ h with h | h
    · exact .inr (.inr ⟨e.symm, h⟩)
    · exact .inl (.inr ⟨e, h⟩)
  · by_cases l : a.2 < b.2
    · exact .inl (.inl l)
    · exact .inr (.inl (by omega))

/-- Go's 'a > b' on strings, as the model has it -/
theorem gtr_iff (a b : List UInt8) : (!(Op.bytesLess a b || a == b)) = Op.bytesLess b a := by
  by_cases e : a = b
  · subst e; simp [bl_irrefl]
  · have hne : (a == b) = false := by simpa using e
    rw [hne, Bool.or_false]
    cases h : Op.bytesLess a b
    · rcases bl_total a b e with k | k
      · rw [h] at k; cases k
      · rw [k]; rfl
    · cases k : Op.bytesLess b a
      · rfl
      · have := bl_trans _ _ _ h k
        rw [bl_irrefl] at this
        cases this

/-- r is one of the first n, and none of them goes before it -/
def isBest (n : Nat) (F : Nat → ByteArray × Int) (r : ByteArray × Int) : Prop := (∃ i, i < n ∧ F i = r) ∧ ∀ j, j < n → ¬ better (F j) r

theorem isBest_one (F : Nat → ByteArray × Int) : isBest 1 F (F 0) := ⟨⟨0, by omega, rfl⟩, fun j hj => by
  obtain rfl : j = 0 := by omega
  exact better_irrefl _⟩

theorem isBest_take {n : Nat} {F : Nat → ByteArray × Int} {r : ByteArray × Int} (h : isBest n F r) (hb : better (F n) r) : isBest (n + 1) F (F n) :=
  ⟨⟨n, by omega, rfl⟩, fun j hj hc => by
    by_cases e : j = n
    · subst e; exact better_irrefl _ hc
    · exact h.2 j (by omega) (better_trans hc hb)⟩

theorem isBest_keep {n : Nat} {F : Nat → ByteArray × Int} {r : ByteArray × Int} (h : isBest n F r) (hb : ¬ better (F n) r) : isBest (n + 1) F r :=
  ⟨by obtain ⟨i, hi, e⟩ := h.1; exact ⟨i, by omega, e⟩, fun j hj => by
    by_cases e : j = n
    · subst e; exact hb
    · exact h.2 j (by omega)⟩

/-- of two members with two ids: the first is chosen exactly where it goes before the second -/
theorem two_first {F : Nat → ByteArray × Int} {r : ByteArray × Int} (h : isBest 2 F r) (hb : better (F 0) (F 1)) : r = F 0 := by
  obtain ⟨⟨i, hi, e⟩, hn⟩ := h
  match i, hi with
  | 0, _ => exact e.symm
  | 1, _ => exact absurd (e ▸ hb) (hn 0 (by omega))

theorem two_second {F : Nat → ByteArray × Int} {r : ByteArray × Int} (h : isBest 2 F r) (hb : better (F 1) (F 0)) : r = F 1 := by
  obtain ⟨⟨i, hi, e⟩, hn⟩ := h
  match i, hi with
  | 0, _ => exact absurd (e ▸ hb) (hn 1 (by omega))
  | 1, _ => exact e.symm
end Go.Proofs.Qxb6614652a.Order
