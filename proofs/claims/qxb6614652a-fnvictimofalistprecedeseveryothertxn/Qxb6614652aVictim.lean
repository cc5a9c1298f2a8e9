import Derived.Test.Qxb6614652aMarks
import Derived.Test.Qxb6614652aOrder
import Derived.Deep.RegionWith
import Derived.Deep.RegionHeld
import Derived.Deep.QuietTactic
import Derived.BigQuiet
import Derived.Outline
import Derived.LoopTactic
import Derived.WalkLawsBesides
namespace Go.Proofs.Qxb6614652a.Victim
open Go.ChangeShapes Go.WideShapes Go.ChangeAt Go.RowKit Marks Order
set_option linter.unusedVariables false

/-- the call's own two blocks: the result (B), the choice so far (B + 1) -/
structure Own (w : World) (r : ByteArray × Int) (wr : World) : Prop where
  id : wr.cell? ⟨w.heap.size + 1, 0, none⟩ = some (.string r.1)
  pr : wr.cell? ⟨w.heap.size + 1, 1, none⟩ = some (.int .i64 r.2)
  f0 : wr.frozen? ⟨w.heap.size + 1, 0, none⟩ = false
  f1 : wr.frozen? ⟨w.heap.size + 1, 1, none⟩ = false
  r0 : wr.cell? ⟨w.heap.size, 0, none⟩ = some (.string ⟨#[]⟩)
  r1 : wr.cell? ⟨w.heap.size, 1, none⟩ = some (.int .i64 0)
  g0 : wr.frozen? ⟨w.heap.size, 0, none⟩ = false
  g1 : wr.frozen? ⟨w.heap.size, 1, none⟩ = false
  sz : w.heap.size + 1 < wr.heap.size
  ex : Ext w wr

theorem own_start (w : World) (r : ByteArray × Int) : Own w r ((w.alloc (.cells #[.string ⟨#[]⟩, .int .i64 0] 45)).alloc (.cells #[.string r.1, .int .i64 r.2] 45)) where
  id := by simp [go_sem]
  pr := by simp [go_sem]
  f0 := by simp [go_sem]
  f1 := by simp [go_sem]
  r0 := by simp [go_sem]
  r1 := by simp [go_sem]
  g0 := by simp [go_sem]
  g1 := by simp [go_sem]
  sz := by simp
  ex := ((Ext.refl w).alloc _ _).alloc _ _

theorem Own.alloc {w wr : World} {r : ByteArray × Int} (h : Own w r wr) (c : Array Value) (t : TypeId) : Own w r (wr.alloc (.cells c t)) := by
  have hx := (Ext.refl wr).alloc c t
  have hz := h.sz
  have c0 (o : Nat) : (wr.alloc (.cells c t)).cell? ⟨w.heap.size, o, none⟩ = wr.cell? ⟨w.heap.size, o, none⟩ := hx.cell (by show w.heap.size < _; omega)
  have c1 (o : Nat) : (wr.alloc (.cells c t)).cell? ⟨w.heap.size + 1, o, none⟩ = wr.cell? ⟨w.heap.size + 1, o, none⟩ := hx.cell hz
  exact ⟨(c1 0).trans h.id, (c1 1).trans h.pr, (hx.frozen _).trans h.f0, (hx.frozen _).trans h.f1, (c0 0).trans h.r0, (c0 1).trans h.r1, (hx.frozen _).trans h.g0, (hx.frozen _).trans h.g1, Nat.lt_of_lt_of_le hz hx.size, h.ex.trans hx⟩

theorem Own.take {w wr : World} {r : ByteArray × Int} (h : Own w r wr) (fi : ByteArray) (fp : Int) :
    Own w (fi, fp) ((wr.setCell ⟨w.heap.size + 1, 0, none⟩ (.string fi)).setCell ⟨w.heap.size + 1, 1, none⟩ (.int .i64 fp)) where
  id := by rw [World.cell?_setCell_other _ _ _ _ (by simp)]; exact World.cell?_setCell_same _ _ _ h.id
  pr := World.cell?_setCell_same _ _ _ ((World.cell?_setCell_other _ _ _ _ (by simp)).trans h.pr)
  f0 := (World.frozen?_setCell _ _ _ _).trans ((World.frozen?_setCell _ _ _ _).trans h.f0)
  f1 := (World.frozen?_setCell _ _ _ _).trans ((World.frozen?_setCell _ _ _ _).trans h.f1)
  r0 := (World.cell?_setCell_other _ _ _ _ (by simp)).trans ((World.cell?_setCell_other _ _ _ _ (by simp)).trans h.r0)
  r1 := (World.cell?_setCell_other _ _ _ _ (by simp)).trans ((World.cell?_setCell_other _ _ _ _ (by simp)).trans h.r1)
  g0 := (World.frozen?_setCell _ _ _ _).trans ((World.frozen?_setCell _ _ _ _).trans h.g0)
  g1 := (World.frozen?_setCell _ _ _ _).trans ((World.frozen?_setCell _ _ _ _).trans h.g1)
  sz := by have := h.sz; simpa [World.setCell] using this
  ex := (h.ex.setCell (by show w.heap.size ≤ w.heap.size + 1; omega) _).setCell (by show w.heap.size ≤ w.heap.size + 1; omega) _

theorem better_lt {fi ri : ByteArray} {fp rp : Int} (h : ¬ rp ≤ fp) : better (fi, fp) (ri, rp) := .inl (by show fp < rp; omega)
theorem better_eq {fi ri : ByteArray} {rp : Int} (h : (!Op.bytesLess fi.toList ri.toList) = true ∧ (!fi.toList == ri.toList) = true) : better (fi, rp) (ri, rp) :=
  .inr ⟨rfl, by show Op.bytesLess ri.toList fi.toList = true; rw [← gtr_iff]; simp at h ⊢; exact h⟩
theorem not_better_eq {fi ri : ByteArray} {rp : Int} (h : (!Op.bytesLess fi.toList ri.toList) = false ∨ (!fi.toList == ri.toList) = false) : ¬ better (fi, rp) (ri, rp) := by
  rintro (k | ⟨_, k⟩)
  · exact absurd k (by show ¬ rp < rp; omega)
  · have k : Op.bytesLess ri.toList fi.toList = true := k
    rw [← gtr_iff] at k
    simp at h k
    rcases h with h | h
    · rw [h] at k; exact absurd k.1 (by decide)
    · exact k.2 h
theorem not_better_gt {fi ri : ByteArray} {fp rp : Int} (h : rp ≤ fp) (hn : ¬ fp = rp) : ¬ better (fi, fp) (ri, rp) := by
  rintro (k | ⟨k, _⟩)
  · have k : fp < rp := k; omega
  · exact hn k

set_option maxHeartbeats 400000 in
theorem walk1 (b off n cap : Nat) (F : Nat → ByteArray × Int) (w : World) (hb : b < w.heap.size) (hn : 0 < n) (hcap : n ≤ cap) (hmax : cap ≤ 1048576) (h1 : cap ≠ 1)
    (hc : ∀ i, i < n → w.cell? ⟨b, off + i * 2, none⟩ = some (.string (F i).1) ∧ w.cell? ⟨b, off + i * 2 + 1, none⟩ = some (.int .i64 (F i).2)) :
    Calls Try.prog 11 #[.slice (some ⟨b, off, none⟩) n cap] w fun e w' => ∃ (ri : ByteArray) (rp : Int), e = .returned (.agg #[.string ri, .int .i64 rp]) ∧ isBest n F (ri, rp) ∧ Ext w w' := by
  obtain ⟨c0, c1⟩ := hc 0 hn
  rw [Nat.zero_mul, Nat.add_zero] at c0 c1
  have hz : ((n : Int) == 0) = false := by simp; omega
  go_enter Try.func11, Try.ntmps11
  go_wp2
  go_loopw [16] (fun i wr => ∃ (k : Nat) (r : ByteArray × Int), k ≤ n - 1 ∧ i = .int .i64 k ∧ isBest (k + 1) F r ∧ Own w r wr) (fun i _ => (n - 1) - (intOf i).toNat)
  case atStart => exact ⟨0, F 0, by omega, rfl, isBest_one F, own_start w (F 0)⟩
  case round =>
    clear c0 c1
    obtain ⟨k, ⟨ri, rp⟩, hk, rfl, hbest, hown⟩ := hrel
    by_cases hlt : k < n - 1
    · have hlt' : decide ((k : Int) < ((n - 1 : Nat) : Int)) = true := decide_eq_true (by omega)
      obtain ⟨c0, c1⟩ := hc (k + 1) (by omega)
      obtain ⟨⟨fi, fp⟩, hF⟩ : ∃ x, F (k + 1) = x := ⟨_, rfl⟩
      rw [hF] at c0 c1
      have d0 : wr.cell? ⟨b, off + 2 + k * 2, none⟩ = some (.string fi) := by
        rw [show off + 2 + k * 2 = off + (k + 1) * 2 by omega]; exact (hown.ex.cell (p := ⟨b, off + (k + 1) * 2, none⟩) hb).trans c0
      have d1 : wr.cell? ⟨b, off + 2 + k * 2 + 1, none⟩ = some (.int .i64 fp) := by
        rw [show off + 2 + k * 2 + 1 = off + (k + 1) * 2 + 1 by omega]; exact (hown.ex.cell (p := ⟨b, off + (k + 1) * 2 + 1, none⟩) hb).trans c1
      clear c0 c1 hc
      have HO := hown
      obtain ⟨q0, q1, q2, q3, q4, q5, q6, q7, q8, q9⟩ := hown
      have HB : Hid (isBest (k + 1) F (ri, rp)) := hbest
      have HF : Hid (F (k + 1) = (fi, fp)) := hF
      clear hbest q9 hF
      go_wp2
      all_goals go_roundw
      all_goals try (simp [intOf]; omega)
      · have e : fp = rp := by assumption
        subst e
        refine ⟨k + 1, (fi, fp), by omega, by go_num, ?_, (HO.take fi fp).alloc _ _⟩
        have := isBest_take HB.out (by rw [HF.out]; exact better_eq (by assumption))
        rwa [HF.out] at this
      · have e : fp = rp := by assumption
        subst e
        refine ⟨k + 1, (ri, fp), by omega, by go_num, isBest_keep HB.out (by rw [HF.out]; exact not_better_eq (by assumption)), HO.alloc _ _⟩
      · refine ⟨k + 1, (ri, rp), by omega, by go_num, isBest_keep HB.out (by rw [HF.out]; exact not_better_gt (by assumption) (by assumption)), HO.alloc _ _⟩
      · refine ⟨k + 1, (fi, fp), by omega, by go_num, ?_, (HO.take fi fp).alloc _ _⟩
        have := isBest_take HB.out (by rw [HF.out]; exact better_lt (by assumption))
        rwa [HF.out] at this
    · have HO := hown
      obtain ⟨q0, q1, q2, q3, q4, q5, q6, q7, q8, q9⟩ := hown
      obtain rfl : k + 1 = n := by omega
      go_wp2
      refine bodyPost_ret (v := .agg #[.string ri, .int .i64 rp]) (by simp [results, Try.results11, go_sem, q4, q5]) rfl ⟨ri, rp, rfl, hbest, ?_⟩
      exact (q9.setCell (p := ⟨w.heap.size, 0, none⟩) (Nat.le_refl _) _).setCell (p := ⟨w.heap.size, 1, none⟩) (Nat.le_refl _) _

theorem walk0 (b off : Nat) (F : Nat → ByteArray × Int) (w : World) (hb : b < w.heap.size)
    (c0 : w.cell? ⟨b, off, none⟩ = some (.string (F 0).1)) (c1 : w.cell? ⟨b, off + 1, none⟩ = some (.int .i64 (F 0).2)) :
    Calls Try.prog 11 #[.slice (some ⟨b, off, none⟩) 1 1] w fun e w' => ∃ (ri : ByteArray) (rp : Int), e = .returned (.agg #[.string ri, .int .i64 rp]) ∧ isBest 1 F (ri, rp) ∧ Ext w w' := by
  go_enter Try.func11, Try.ntmps11
  go_wp2
  refine wp_loop_rounds 1 ?_
  rw [rounds_succ]
  go_wp2
  refine bodyPost_ret (v := .agg #[.string (F 0).1, .int .i64 (F 0).2]) (by simp [results, Try.results11, go_sem]) rfl ⟨(F 0).1, (F 0).2, rfl, isBest_one F, ?_⟩
  exact ((Ext.refl w).alloc _ _).alloc _ _

theorem victim_any (b off n cap : Nat) (F : Nat → ByteArray × Int) (w : World) (hb : b < w.heap.size) (hn : 0 < n) (hcap : n ≤ cap) (hmax : cap ≤ 1048576)
    (hc : ∀ i, i < n → w.cell? ⟨b, off + i * 2, none⟩ = some (.string (F i).1) ∧ w.cell? ⟨b, off + i * 2 + 1, none⟩ = some (.int .i64 (F i).2)) :
    Calls Try.prog 11 #[.slice (some ⟨b, off, none⟩) n cap] w fun e w' => ∃ (ri : ByteArray) (rp : Int), e = .returned (.agg #[.string ri, .int .i64 rp]) ∧ isBest n F (ri, rp) ∧ Ext w w' := by
  by_cases h1 : cap = 1
  · obtain rfl : n = 1 := by omega
    subst h1
    obtain ⟨c0, c1⟩ := hc 0 hn
    exact walk0 b off F w hb (by simpa using c0) (by simpa using c1)
  · exact walk1 b off n cap F w hb hn hcap hmax h1 hc

/-- of two members: the first, the second -/
theorem victim_first (b : Nat) (ai bi : ByteArray) (ap bp : Int) (w : World) (hb : b < w.heap.size) (c0 : w.cell? ⟨b, 0, none⟩ = some (.string ai)) (c1 : w.cell? ⟨b, 1, none⟩ = some (.int .i64 ap)) (c2 : w.cell? ⟨b, 2, none⟩ = some (.string bi)) (c3 : w.cell? ⟨b, 3, none⟩ = some (.int .i64 bp))
    (hbt : better (ai, ap) (bi, bp)) :
    Calls Try.prog 11 #[.slice (some ⟨b, 0, none⟩) 2 2] w fun e w' => e = .returned (.agg #[.string ai, .int .i64 ap]) ∧ Ext w w' := by
  refine (victim_any b 0 2 2 (fun i => if i = 0 then (ai, ap) else (bi, bp)) w hb (by omega) (by omega) (by omega) ?_).mono ?_
  · intro i hi
    match i, hi with
    | 0, _ => exact ⟨c0, c1⟩
    | 1, _ => exact ⟨c2, c3⟩
  · rintro e w' ⟨ri, rp, rfl, hbest, hx⟩
    have := two_first hbest hbt
    simp at this
    obtain ⟨rfl, rfl⟩ := this
    exact ⟨rfl, hx⟩
theorem victim_second (b : Nat) (ai bi : ByteArray) (ap bp : Int) (w : World) (hb : b < w.heap.size) (c0 : w.cell? ⟨b, 0, none⟩ = some (.string ai)) (c1 : w.cell? ⟨b, 1, none⟩ = some (.int .i64 ap)) (c2 : w.cell? ⟨b, 2, none⟩ = some (.string bi)) (c3 : w.cell? ⟨b, 3, none⟩ = some (.int .i64 bp))
    (hbt : better (bi, bp) (ai, ap)) :
    Calls Try.prog 11 #[.slice (some ⟨b, 0, none⟩) 2 2] w fun e w' => e = .returned (.agg #[.string bi, .int .i64 bp]) ∧ Ext w w' := by
  refine (victim_any b 0 2 2 (fun i => if i = 0 then (ai, ap) else (bi, bp)) w hb (by omega) (by omega) (by omega) ?_).mono ?_
  · intro i hi
    match i, hi with
    | 0, _ => exact ⟨c0, c1⟩
    | 1, _ => exact ⟨c2, c3⟩
  · rintro e w' ⟨ri, rp, rfl, hbest, hx⟩
    have := two_second hbest hbt
    simp at this
    obtain ⟨rfl, rfl⟩ := this
    exact ⟨rfl, hx⟩

theorem ma_cells {w w1 : World} {c1 c2 c4 : Array Value} {t1 t2 t4 : TypeId} {ai : ByteArray} {ap : Int} (hx : Ext ((((w.alloc (.cells c1 t1)).alloc (.cells c2 t2)).alloc (.cells #[.string ai, .int .i64 ap] 45)).alloc (.cells c4 t4)).drew w1) :
    w1.cell? ⟨w.heap.size + 1 + 1, 0, none⟩ = some (.string ai) ∧ w1.cell? ⟨w.heap.size + 1 + 1, 1, none⟩ = some (.int .i64 ap) ∧ Ext w w1 := by
  have hz : w.heap.size + 1 + 1 < ((((w.alloc (.cells c1 t1)).alloc (.cells c2 t2)).alloc (.cells #[.string ai, .int .i64 ap] 45)).alloc (.cells c4 t4)).drew.heap.size := by
    show w.heap.size + 1 + 1 < ((((w.alloc (.cells c1 t1)).alloc (.cells c2 t2)).alloc (.cells #[.string ai, .int .i64 ap] 45)).alloc (.cells c4 t4)).heap.size
    simp
  refine ⟨(hx.cell (p := ⟨w.heap.size + 1 + 1, 0, none⟩) hz).trans (by simp [go_sem]), (hx.cell (p := ⟨w.heap.size + 1 + 1, 1, none⟩) hz).trans (by simp [go_sem]), ?_⟩
  exact (((((Ext.refl w).alloc c1 t1).alloc c2 t2).alloc _ 45).alloc c4 t4 |>.drewN 1).trans hx

end Go.Proofs.Qxb6614652a.Victim
