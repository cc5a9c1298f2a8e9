import Derived.Test.Qxb6614652aMarks
import Derived.Deep.RegionWith
import Derived.Deep.RegionHeld
import Derived.Deep.DeepCutAuto
import Derived.Deep.Light
import Derived.LoopTactic
namespace Go.Proofs.Qxb6614652a.One
open Go.ChangeShapes Go.WideShapes Go.ChangeAt Go.RowKit Marks
set_option linter.unusedVariables false

/-- the call's own four blocks: the record, spent, made, rel -/
structure Inv (B : Nat) (S : Nat → Bool) (M : Nat → Int) (t : Int) (rel : Nat → Bool) (wr : World) : Prop where
  rc : wr.cell? ⟨B, 1, none⟩ = some (.int .u64 t)
  sp : ∀ j, j < 4 → wr.cell? ⟨B + 1, j, none⟩ = some (.bool (S j))
  md : ∀ j, j < 4 → wr.cell? ⟨B + 1 + 1, j, none⟩ = some (.int .u64 (M j))
  rl : ∀ j, j < 4 → wr.cell? ⟨B + 1 + 1 + 1, j, none⟩ = some (.bool (rel j))
  rf : ∀ j, wr.frozen? ⟨B + 1 + 1 + 1, j, none⟩ = false
  sz : B + 1 + 1 + 1 < wr.heap.size

theorem Inv.ext {B : Nat} {S : Nat → Bool} {M : Nat → Int} {t : Int} {rel : Nat → Bool} {wr w' : World} (h : Inv B S M t rel wr) (hx : Ext wr w') : Inv B S M t rel w' where
  rc := (hx.cell (p := ⟨B, 1, none⟩) (by have := h.sz; show B < _; omega)).trans h.rc
  sp := fun j hj => (hx.cell (p := ⟨B + 1, j, none⟩) (by have := h.sz; show B + 1 < _; omega)).trans (h.sp j hj)
  md := fun j hj => (hx.cell (p := ⟨B + 1 + 1, j, none⟩) (by have := h.sz; show B + 1 + 1 < _; omega)).trans (h.md j hj)
  rl := fun j hj => (hx.cell (p := ⟨B + 1 + 1 + 1, j, none⟩) (by have := h.sz; show B + 1 + 1 + 1 < _; omega)).trans (h.rl j hj)
  rf := fun j => (hx.frozen _).trans (h.rf j)
  sz := Nat.lt_of_lt_of_le h.sz hx.size

theorem Inv.drew {B : Nat} {S : Nat → Bool} {M : Nat → Int} {t : Int} {rel : Nat → Bool} {wr : World} (h : Inv B S M t rel wr) : Inv B S M t rel wr.drew :=
  h.ext ((Ext.refl wr).drewN 1)

/-- what a mark of the list relies on -/
def R (S : Nat → Bool) (M : Nat → Int) (t : Int) (j : Nat) : Bool := !S j && decide (t < M j)
/-- rel behind k rounds -/
def Rk (S : Nat → Bool) (M : Nat → Int) (t : Int) (k j : Nat) : Bool := decide (j < k) && R S M t j

theorem Inv.store {B : Nat} {S : Nat → Bool} {M : Nat → Int} {t : Int} {k : Nat} {wr : World} (h : Inv B S M t (Rk S M t k) wr) (hk : k < 4) :
    Inv B S M t (Rk S M t (k + 1)) (wr.setCell ⟨B + 1 + 1 + 1, k, none⟩ (.bool (R S M t k))) where
  rc := (World.cell?_setCell_far _ _ _ _ (by simp; omega)).trans h.rc
  sp := fun j hj => (World.cell?_setCell_far _ _ _ _ (by show B + 1 + 1 + 1 ≠ B + 1; omega)).trans (h.sp j hj)
  md := fun j hj => (World.cell?_setCell_far _ _ _ _ (by show B + 1 + 1 + 1 ≠ B + 1 + 1; omega)).trans (h.md j hj)
  rl := fun j hj => by
    by_cases e : j = k
    · subst e
      rw [World.cell?_setCell_same _ _ _ (h.rl j hj)]
      have : Rk S M t (j + 1) j = R S M t j := by simp [Rk]
      rw [this]
    · rw [World.cell?_setCell_other _ _ _ _ (fun e' => e (by simpa using e'.symm)), h.rl j hj]
      have : Rk S M t (k + 1) j = Rk S M t k j := by
        unfold Rk
        have : decide (j < k + 1) = decide (j < k) := by
          by_cases h : j < k
          · simp [h]; omega
          · simp [h]; omega
        rw [this]
      rw [this]
  rf := fun j => (World.frozen?_setCell _ _ _ _).trans (h.rf j)
  sz := by have := h.sz; simpa [World.setCell] using this

theorem Rk_of {S : Nat → Bool} {M : Nat → Int} {t : Int} {n j : Nat} (h : j < n) : Rk S M t n j = R S M t j := by simp [Rk, h]
theorem R_spent {S : Nat → Bool} {M : Nat → Int} {t : Int} {i : Nat} (h : S i = true) : R S M t i = false := by simp [R, h]
theorem R_up {S : Nat → Bool} {M : Nat → Int} {t : Int} {i j : Nat} (h : R S M t i = true) (hs : S j = false) (hm : M i ≤ M j) : R S M t j = true := by
  simp [R] at h ⊢
  exact ⟨hs, by omega⟩

set_option maxHeartbeats 800000 in
theorem walk3 (a0 : Int) (a1 : Int) (a2 : Bool) (a3 : Bool) (a4 : Int) (a5 : Bool) (a6 : Int) (w : World) (h1 : (a1 != 18446744073709551615) = false) (S : Nat → Bool) (M : Nat → Int) (hR2 : R S M a1 2 = false)
    (h0 : Inv w.heap.size S M a1 (Rk S M a1 0) ((((w.alloc (.cells #[.int .i64 a0, .int .u64 a1, .bool a2] 50)).alloc (.cells #[.bool a3, .bool a5, .bool false, .bool false] 27)).alloc (.cells #[.int .u64 a4, .int .u64 a6, .int .u64 a1, .int .u64 0] 28)).alloc (.cells #[.bool false, .bool false, .bool false, .bool false] 27))) :
    Calls Try.prog 4 #[.int .i64 a0, .int .u64 a1, .bool a2, .bool a3, .int .u64 a4, .bool a5, .int .u64 a6] w fun e w' => e = .returned (.bool true) ∧ Grown w w' := by
  go_enter Try.func4, Try.ntmps4
  go_wp2_with (go_at_call 7; refine (new_any _ _ _ _).mono ?_; rintro e w' ⟨rfl, hw⟩; subst hw)
  go_loopw [20] (fun i wr => ∃ k : Nat, k ≤ 3 ∧ i = .int .i64 k ∧ Inv w.heap.size S M a1 (Rk S M a1 k) wr ∧ Ext w wr) (fun i _ => 3 - (intOf i).toNat)
  case atStart => exact ⟨0, by omega, rfl, h0, ((((Ext.refl w).alloc _ _).alloc _ _).alloc _ _).alloc _ _⟩
  case round =>
    clear h0
    obtain ⟨k, hk, rfl, hI, hE⟩ := hrel
    by_cases hlt : k < 3
    · have g1 := hI.sp k (by omega)
      have g2 := hI.md k (by omega)
      have g3 := hI.drew
      have g4 := hE.drewN 1
      go_wp2_with fail
      go_region_with (first | (go_at_call 9; refine (on_any _ _ _ _).mono ?_; rintro e w1 ⟨rfl, hw1⟩; have g5 := g3.ext hw1; have g6 := g4.trans hw1; clear hw1 g3 g4) | (go_at_call 8; refine (rely_any _ a1 _ _ _ ?_ ?_).mono ?_; exact (by have := g5.sz; omega); exact g5.rc; rintro e w2 ⟨rfl, hw2⟩; have g7 := g5.ext hw2; have g8 := g6.trans hw2; clear hw2 g5 g6; have g9 := g7.rl k (by omega); have g10 := g7.rf k))
      all_goals
        go_wp2
        go_roundw
        case rel => exact ⟨k + 1, by omega, by go_num, g7.store (by omega), g8.setCell (by show w.heap.size ≤ w.heap.size + 1 + 1 + 1; omega) _⟩
        case measure => simp [intOf]; omega
    · obtain rfl : k = 3 := by omega
      have g1 : wr.cell? ⟨w.heap.size + 1 + 1 + 1, 2, none⟩ = some (.bool false) := by rw [hI.rl 2 (by omega), Rk_of (by omega), hR2]
      clear hk hlt
      go_wp2_with fail
      go_loopw [21, 22] (fun i _ wr => ∃ k : Nat, k ≤ 3 ∧ i = .int .i64 k ∧ Inv w.heap.size S M a1 (Rk S M a1 3) wr ∧ Ext w wr) (fun i _ _ => 3 - (intOf i).toNat)
      case atStart => exact ⟨0, by omega, rfl, hI, hE⟩
      case round =>
        clear hI hE g1
        obtain ⟨i, hi, rfl, hI, hE⟩ := hrel
        by_cases hlt : i < 3
        · have g1 := hI.sp i (by omega)
          have g2 : wr.cell? ⟨w.heap.size + 1 + 1 + 1, i, none⟩ = some (.bool (R S M a1 i)) := by rw [hI.rl i (by omega), Rk_of hlt]
          have hlt' : decide ((i : Int) < 3) = true := decide_eq_true (by omega)
          have g3 : (S i && R S M a1 i) = false := by cases h : S i <;> simp [R_spent, h]
          cases hsi : S i
          all_goals
            cases hri : R S M a1 i
            all_goals
              rw [hsi] at g1 g3
              rw [hri] at g2 g3
          case true.true => exact absurd g3 (by decide)
          all_goals
            have HS : Hid (S i = _) := hsi
            have HR : Hid (R S M a1 i = _) := hri
            clear hsi hri g3
            go_wp2_with fail
            go_loopw [22] (fun j wr => ∃ k : Nat, k ≤ 3 ∧ j = .int .i64 k ∧ Inv w.heap.size S M a1 (Rk S M a1 3) wr ∧ Ext w wr) (fun j _ => 3 - (intOf j).toNat)
            case atStart => exact ⟨0, by omega, rfl, hI, hE⟩
            case round =>
              clear hI hE g1 g2
              obtain ⟨j, hj, rfl, hI, hE⟩ := hrel
              by_cases hltj : j < 3
              · have q1 : wr.cell? ⟨w.heap.size + 1 + 1 + 1, i, none⟩ = some (.bool (R S M a1 i)) := by rw [hI.rl i (by omega), Rk_of hlt]
                rw [HR.out] at q1
                have hltj' : decide ((j : Int) < 3) = true := decide_eq_true (by omega)
                have q2 := hI.sp j (by omega)
                have q3 := hI.md j (by omega)
                have q4 := hI.md i (by omega)
                have q5 : wr.cell? ⟨w.heap.size + 1 + 1 + 1, j, none⟩ = some (.bool (R S M a1 j)) := by rw [hI.rl j (by omega), Rk_of hltj]
                have q6 : R S M a1 i = true → S j = false → M i ≤ M j → R S M a1 j = true := fun a b c => R_up a b c
                rw [HR.out] at q6
                cases hsj : S j
                all_goals
                  rw [hsj] at q2 q6
                  by_cases hm : M i ≤ M j
                  all_goals
                    try rw [q6 rfl rfl hm] at q5
                    first | have dm : decide (M i ≤ M j) = true := decide_eq_true hm | have dm : decide (M i ≤ M j) = false := decide_eq_false hm
                    have HJ : Hid (S j = _) := hsj
                    clear hsj q6
                    go_wp2_with fail
                    go_quiet (fail)
                    go_wp2
                    go_roundw
                    case rel => first | exact ⟨j + 1, by omega, by go_num, hI.ext ((Ext.refl _).drewN _), hE.drewN _⟩ | ((repeat apply Exists.intro); exact ⟨⟨j + 1, by omega, by go_num, hI.ext ((Ext.refl _).drewN _), hE.drewN _⟩, rfl⟩)
                    case measure => simp [intOf]; omega
              · go_wp2_with fail
                go_roundw
                case rel => exact ⟨i + 1, by omega, by go_num, hI, hE⟩
                case measure => simp [intOf]; omega
        · go_wp2_with fail
          go_ret
          exact ⟨rfl, hE.2⟩

set_option maxHeartbeats 800000 in
theorem walk4 (a0 : Int) (a1 : Int) (a2 : Bool) (a3 : Bool) (a4 : Int) (a5 : Bool) (a6 : Int) (w : World) (h1 : (a1 != 18446744073709551615) = true) (hlo : 0 ≤ a1) (hhi : a1 ≤ 18446744073709551614) (S : Nat → Bool) (M : Nat → Int) (hR2 : R S M a1 2 = false) (hR3 : R S M a1 3 = true)
    (h0 : Inv w.heap.size S M a1 (Rk S M a1 0) ((((w.alloc (.cells #[.int .i64 a0, .int .u64 a1, .bool a2] 50)).alloc (.cells #[.bool a3, .bool a5, .bool false, .bool false] 27)).alloc (.cells #[.int .u64 a4, .int .u64 a6, .int .u64 a1, .int .u64 (a1 + 1)] 28)).alloc (.cells #[.bool false, .bool false, .bool false, .bool false] 27))) :
    Calls Try.prog 4 #[.int .i64 a0, .int .u64 a1, .bool a2, .bool a3, .int .u64 a4, .bool a5, .int .u64 a6] w fun e w' => e = .returned (.bool true) ∧ Grown w w' := by
  go_enter Try.func4, Try.ntmps4
  go_wp2_with (go_at_call 7; refine (new_any _ _ _ _).mono ?_; rintro e w' ⟨rfl, hw⟩; subst hw)
  go_loopw [20] (fun i wr => ∃ k : Nat, k ≤ 4 ∧ i = .int .i64 k ∧ Inv w.heap.size S M a1 (Rk S M a1 k) wr ∧ Ext w wr) (fun i _ => 4 - (intOf i).toNat)
  case atStart => exact ⟨0, by omega, rfl, h0, ((((Ext.refl w).alloc _ _).alloc _ _).alloc _ _).alloc _ _⟩
  case round =>
    clear h0
    obtain ⟨k, hk, rfl, hI, hE⟩ := hrel
    by_cases hlt : k < 4
    · have g1 := hI.sp k (by omega)
      have g2 := hI.md k (by omega)
      have g3 := hI.drew
      have g4 := hE.drewN 1
      go_wp2_with fail
      go_region_with (first | (go_at_call 9; refine (on_any _ _ _ _).mono ?_; rintro e w1 ⟨rfl, hw1⟩; have g5 := g3.ext hw1; have g6 := g4.trans hw1; clear hw1 g3 g4) | (go_at_call 8; refine (rely_any _ a1 _ _ _ ?_ ?_).mono ?_; exact (by have := g5.sz; omega); exact g5.rc; rintro e w2 ⟨rfl, hw2⟩; have g7 := g5.ext hw2; have g8 := g6.trans hw2; clear hw2 g5 g6; have g9 := g7.rl k (by omega); have g10 := g7.rf k))
      all_goals
        go_wp2
        go_roundw
        case rel => exact ⟨k + 1, by omega, by go_num, g7.store (by omega), g8.setCell (by show w.heap.size ≤ w.heap.size + 1 + 1 + 1; omega) _⟩
        case measure => simp [intOf]; omega
    · obtain rfl : k = 4 := by omega
      have g1 : wr.cell? ⟨w.heap.size + 1 + 1 + 1, 2, none⟩ = some (.bool false) := by rw [hI.rl 2 (by omega), Rk_of (by omega), hR2]
      have g1' : wr.cell? ⟨w.heap.size + 1 + 1 + 1, 3, none⟩ = some (.bool true) := by rw [hI.rl 3 (by omega), Rk_of (by omega), hR3]
      clear hk hlt
      go_wp2_with fail
      go_loopw [21, 22] (fun i _ wr => ∃ k : Nat, k ≤ 4 ∧ i = .int .i64 k ∧ Inv w.heap.size S M a1 (Rk S M a1 4) wr ∧ Ext w wr) (fun i _ _ => 4 - (intOf i).toNat)
      case atStart => exact ⟨0, by omega, rfl, hI, hE⟩
      case round =>
        clear hI hE g1 g1'
        obtain ⟨i, hi, rfl, hI, hE⟩ := hrel
        by_cases hlt : i < 4
        · have g1 := hI.sp i (by omega)
          have g2 : wr.cell? ⟨w.heap.size + 1 + 1 + 1, i, none⟩ = some (.bool (R S M a1 i)) := by rw [hI.rl i (by omega), Rk_of hlt]
          have hlt' : decide ((i : Int) < 4) = true := decide_eq_true (by omega)
          have g3 : (S i && R S M a1 i) = false := by cases h : S i <;> simp [R_spent, h]
          cases hsi : S i
          all_goals
            cases hri : R S M a1 i
            all_goals
              rw [hsi] at g1 g3
              rw [hri] at g2 g3
          case true.true => exact absurd g3 (by decide)
          all_goals
            have HS : Hid (S i = _) := hsi
            have HR : Hid (R S M a1 i = _) := hri
            clear hsi hri g3
            go_wp2_with fail
            go_loopw [22] (fun j wr => ∃ k : Nat, k ≤ 4 ∧ j = .int .i64 k ∧ Inv w.heap.size S M a1 (Rk S M a1 4) wr ∧ Ext w wr) (fun j _ => 4 - (intOf j).toNat)
            case atStart => exact ⟨0, by omega, rfl, hI, hE⟩
            case round =>
              clear hI hE g1 g2
              obtain ⟨j, hj, rfl, hI, hE⟩ := hrel
              by_cases hltj : j < 4
              · have q1 : wr.cell? ⟨w.heap.size + 1 + 1 + 1, i, none⟩ = some (.bool (R S M a1 i)) := by rw [hI.rl i (by omega), Rk_of hlt]
                rw [HR.out] at q1
                have hltj' : decide ((j : Int) < 4) = true := decide_eq_true (by omega)
                have q2 := hI.sp j (by omega)
                have q3 := hI.md j (by omega)
                have q4 := hI.md i (by omega)
                have q5 : wr.cell? ⟨w.heap.size + 1 + 1 + 1, j, none⟩ = some (.bool (R S M a1 j)) := by rw [hI.rl j (by omega), Rk_of hltj]
                have q6 : R S M a1 i = true → S j = false → M i ≤ M j → R S M a1 j = true := fun a b c => R_up a b c
                rw [HR.out] at q6
                cases hsj : S j
                all_goals
                  rw [hsj] at q2 q6
                  by_cases hm : M i ≤ M j
                  all_goals
                    try rw [q6 rfl rfl hm] at q5
                    first | have dm : decide (M i ≤ M j) = true := decide_eq_true hm | have dm : decide (M i ≤ M j) = false := decide_eq_false hm
                    have HJ : Hid (S j = _) := hsj
                    clear hsj q6
                    go_wp2_with fail
                    go_quiet (fail)
                    go_wp2
                    go_roundw
                    case rel => first | exact ⟨j + 1, by omega, by go_num, hI.ext ((Ext.refl _).drewN _), hE.drewN _⟩ | ((repeat apply Exists.intro); exact ⟨⟨j + 1, by omega, by go_num, hI.ext ((Ext.refl _).drewN _), hE.drewN _⟩, rfl⟩)
                    case measure => simp [intOf]; omega
              · go_wp2_with fail
                go_roundw
                case rel => exact ⟨i + 1, by omega, by go_num, hI, hE⟩
                case measure => simp [intOf]; omega
        · go_wp2_with fail
          go_ret
          exact ⟨rfl, hE.2⟩

theorem inv0 (w : World) (b0 b1 : Bool) (m0 m1 m3 t p : Int) (d : Bool) (S : Nat → Bool) (M : Nat → Int) (hS : S = fun j => if j = 0 then b0 else if j = 1 then b1 else false) (hM : M = fun j => if j = 0 then m0 else if j = 1 then m1 else if j = 2 then t else m3) :
    Inv w.heap.size S M t (Rk S M t 0) ((((w.alloc (.cells #[.int .i64 p, .int .u64 t, .bool d] 50)).alloc (.cells #[.bool b0, .bool b1, .bool false, .bool false] 27)).alloc (.cells #[.int .u64 m0, .int .u64 m1, .int .u64 t, .int .u64 m3] 28)).alloc (.cells #[.bool false, .bool false, .bool false, .bool false] 27)) where
  rc := by simp [go_sem]
  sp := fun j hj => by
    subst hS
    match j, hj with
    | 0, _ => simp [go_sem]
    | 1, _ => simp [go_sem]
    | 2, _ => simp [go_sem]
    | 3, _ => simp [go_sem]
  md := fun j hj => by
    subst hM
    match j, hj with
    | 0, _ => simp [go_sem]
    | 1, _ => simp [go_sem]
    | 2, _ => simp [go_sem]
    | 3, _ => simp [go_sem]
  rl := fun j hj => by
    have : Rk S M t 0 j = false := by simp [Rk]
    rw [this]
    match j, hj with
    | 0, _ => simp [go_sem]
    | 1, _ => simp [go_sem]
    | 2, _ => simp [go_sem]
    | 3, _ => simp [go_sem]
  rf := fun j => by simp [go_sem]
  sz := by simp

theorem walk (a0 : Int) (a1 : Int) (a2 : Bool) (a3 : Bool) (a4 : Int) (a5 : Bool) (a6 : Int) (w1 : (Lit.int .u64 a1).wf = true) (w : World) :
    Calls Try.prog 4 #[.int .i64 a0, .int .u64 a1, .bool a2, .bool a3, .int .u64 a4, .bool a5, .int .u64 a6] w fun e w' => e = .returned (.bool true) ∧ Grown w w' := by
  have hb := bounds_u64 w1
  by_cases h : a1 = 18446744073709551615
  · exact walk3 a0 a1 a2 a3 a4 a5 a6 w (by simp [h]) _ _ (by simp [R]) (inv0 w a3 a5 a4 a6 0 a1 a0 a2 _ _ rfl rfl)
  · exact walk4 a0 a1 a2 a3 a4 a5 a6 w (by simp [h]) hb.1 (by omega) _ _ (by simp [R]) (by simp [R]; omega) (inv0 w a3 a5 a4 a6 (a1 + 1) a1 a0 a2 _ _ rfl rfl)
end Go.Proofs.Qxb6614652a.One
