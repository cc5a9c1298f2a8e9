import Derived.Test.Qxb6605595aEsc
import Derived.Test.Qxb6605595aPlain
import Derived.Lib.IndexBytes
namespace Go.Proofs.Qxb6605595a.Esc
open Go.ChangeShapes Go.WideShapes Go.ChangeAt Go.RowKit Plain
set_option linter.unusedVariables false

/-- ZZescapeAt hands on -/
theorem hands {b : Nat} {x : Int} {w : World} {r : Bool} (h : Calls Try.prog 7 #[.pointer (some ⟨b, 0, none⟩), .int .i64 x] w fun e w' => e = .returned (.bool r) ∧ ∃ m, w' = w.drewN m) :
    Calls Try.prog 6 #[.pointer (some ⟨b, 0, none⟩), .int .i64 x] w fun e w' => e = .returned (.bool r) ∧ ∃ m, w' = w.drewN m := by
  have H : Hid (Calls Try.prog 7 #[.pointer (some ⟨b, 0, none⟩), .int .i64 x] w fun e w' => e = .returned (.bool r) ∧ ∃ m, w' = w.drewN m) := h
  clear h
  go_enter Try.func6, Try.ntmps6
  go_wp2_with fail
  refine H.out.mono ?_
  rintro e w' ⟨rfl, m, rfl⟩
  go_wp2
  go_ret
  exact ⟨rfl, m, rfl⟩

theorem pair_toList (s : ByteArray) (p : Nat) {c d : UInt8} {r : List UInt8} (h : s.data.toList.drop p = c :: d :: r) : (s.extract p (p + 2)).toList = [c, d] := by
  rw [ByteArray.toList_eq, Lib.extract_data, h, show p + 2 - p = 2 by omega]
  rfl

theorem size_of_drop (s : ByteArray) (p : Nat) {r : List UInt8} (h : s.data.toList.drop p = r) : s.size = p + r.length ∨ r = [] := by
  have := congrArg List.length h
  rw [List.length_drop] at this
  have hs : s.data.toList.length = s.size := by simp
  cases r with
  | nil => exact .inr rfl
  | cons a t => left; simp at this ⊢; omega

/-- an escaped byte, twice -/
theorem esc_yes (all : Bool) (b : Nat) (s : ByteArray) (p : Nat) (x : Int) (w : World) (c : UInt8) (r : List UInt8) (c0 : w.cell? ⟨b, 0, none⟩ = some (.string s)) (c1 : w.cell? ⟨b, 1, none⟩ = some (.int .i64 p)) (hx : x = if all = true then 2 else 1) (hs : s.size ≤ 1048576)
    (hd : s.data.toList.drop p = c :: c :: r) (he : esc all c = true) :
    Calls Try.prog 6 #[.pointer (some ⟨b, 0, none⟩), .int .i64 x] w fun e w' => e = .returned (.bool true) ∧ ∃ m, w' = w.drewN m := by
  have hz : p + 1 < s.size := by
    rcases size_of_drop s p hd with h | h
    · simp at h; omega
    · cases h
  have hpr := pair_toList s p hd
  have hx0 : (x == 0) = false := by subst hx; cases all <;> decide
  apply hands
  by_cases h36 : c = 36
  · exact pair_dollar b s _ p x w c0 c1 hx0 hs hz (fun w => slice_run s p (by omega) w) (by rw [hpr, h36]; decide)
  · simp [esc, h36] at he
    obtain ⟨rfl, h92⟩ := he
    exact pair_back b s _ p x w c0 c1 hx0 hs hz (fun w => slice_run s p (by omega) w) (by rw [hpr, h92]; decide) (by rw [hpr, h92]; decide) (by subst hx; decide)

/-- a byte that is not escaped -/
theorem esc_no (all : Bool) (b : Nat) (s : ByteArray) (p : Nat) (x : Int) (w : World) (c : UInt8) (r : List UInt8) (c0 : w.cell? ⟨b, 0, none⟩ = some (.string s)) (c1 : w.cell? ⟨b, 1, none⟩ = some (.int .i64 p)) (hx : x = if all = true then 2 else 1) (hs : s.size ≤ 1048576)
    (hd : s.data.toList.drop p = c :: r) (he : esc all c = false) :
    Calls Try.prog 6 #[.pointer (some ⟨b, 0, none⟩), .int .i64 x] w fun e w' => e = .returned (.bool false) ∧ ∃ m, w' = w.drewN m := by
  have hz : s.size = p + (r.length + 1) := by
    rcases size_of_drop s p hd with h | h
    · simpa using h
    · cases h
  have hx0 : (x == 0) = false := by subst hx; cases all <;> decide
  apply hands
  simp [esc] at he
  obtain ⟨h36, h92⟩ := he
  cases r with
  | nil => exact at_end b s p x w c0 c1 hx0 hs (by simp at hz; omega)
  | cons d t =>
    have hpr := pair_toList s p hd
    have hz' : p + 1 < s.size := by simp at hz; omega
    have hsl := fun (w : World) => slice_run s p (by omega) w
    have e1 : ((s.extract p (p + 2)).toList == [36, 36]) = false := by rw [hpr]; simp [h36]
    by_cases h92' : c = 92
    · have hall : all = false := by
        cases all
        · rfl
        · exact absurd h92' (h92 rfl)
      subst hall
      by_cases d92 : d = 92
      · exact pair_one_a b s _ p x w c0 c1 hx0 hs hz' hsl e1 (by rw [hpr]; simp [h92', d92]) (by subst hx; decide)
      · by_cases d47 : d = 47
        · exact pair_one_b b s _ p x w c0 c1 hx0 hs hz' hsl e1 (by rw [hpr]; simp [d92]) (by rw [hpr]; simp [h92', d47]) (by subst hx; decide)
        · exact pair_none b s _ p x w c0 c1 hx0 hs hz' hsl e1 (by rw [hpr]; simp [d92]) (by rw [hpr]; simp [d47])
    · exact pair_none b s _ p x w c0 c1 hx0 hs hz' hsl e1 (by rw [hpr]; simp [h92']) (by rw [hpr]; simp [h92'])
end Go.Proofs.Qxb6605595a.Esc
