import Derived.Test.Qxb6614652aVictim
import Derived.Laws.StructEq
namespace Go.Proofs.Qxb6614652a.Victim
open Go.ChangeShapes Go.WideShapes Go.ChangeAt Go.RowKit Marks Order
set_option linter.unusedVariables false

theorem prec_eq (ai bi as' bs' : ByteArray) (ap bp aq bq : Int) (w : World) (he : (ai.toList == bi.toList) = true) :
    Calls Try.prog 15 #[.agg #[.string ai, .int .i64 ap, .string as', .int .u64 aq], .agg #[.string bi, .int .i64 bp, .string bs', .int .u64 bq]] w fun e w' => e = .returned (.bool false) ∧ Ext w w' := by
  go_enter Try.func15, Try.ntmps15
  go_wp2
  go_quiet (fail)
  go_wp2
  go_ret
  exact ⟨rfl, ((((Ext.refl w).alloc _ _).alloc _ _).alloc _ _).drewN _⟩

theorem eq45 (ai bi : ByteArray) (ap bp : Int) (w : World) : (Op.equalIn 10000 45 (.agg #[.string ai, .int .i64 ap]) (.agg #[.string bi, .int .i64 bp])).run Try.prog w = .ok (ai.toList == bi.toList && ap == bp) w := by
  have u2 := Try.underlying2
  have u9 := Try.underlying9
  have hS : Try.prog.underlying 45 = some (.struct (Try.prog.fieldsOf 45)) := by kernel_rfl
  have hp : Try.prog.stoodInHeld 45 = false := by kernel_rfl
  rw [show (10000 : Nat) = 9999 + 1 from rfl, run_equalIn_agg w 9999 45 _ _ hS hp]
  simp only [Program.fieldsOf, Try.underlying45]
  go_simp
  by_cases h1 : ai.toList = bi.toList <;> by_cases h2 : ap = bp <;> simp [h1, h2]

theorem guard45 : Try.prog.eqGuardType Try.prog.depth 45 = false := by kernel_rfl

/-- the cells that the test reads, wherever it reads them -/
def Reads (w : World) (ai bi : ByteArray) (ap bp : Int) (w' : World) : Prop :=
  w'.cell? ⟨w.heap.size, 0, none⟩ = some (.string ai) ∧ w'.cell? ⟨w.heap.size + 1, 0, none⟩ = some (.string bi) ∧ w'.cell? ⟨w.heap.size + 1, 1, none⟩ = some (.int .i64 bp) ∧
  w'.cell? ⟨w.heap.size + 1 + 1, 0, none⟩ = some (.string ai) ∧ w'.cell? ⟨w.heap.size + 1 + 1, 1, none⟩ = some (.int .i64 ap) ∧ w.heap.size + 1 + 1 < w'.heap.size

theorem Reads.ext {w w1 w2 : World} {ai bi : ByteArray} {ap bp : Int} (h : Reads w ai bi ap bp w1) (hx : Ext w1 w2) : Reads w ai bi ap bp w2 := by
  obtain ⟨h1, h2, h3, h4, h5, h6⟩ := h
  exact ⟨(hx.cell (p := ⟨w.heap.size, 0, none⟩) (by show w.heap.size < _; omega)).trans h1, (hx.cell (p := ⟨w.heap.size + 1, 0, none⟩) (by show w.heap.size + 1 < _; omega)).trans h2, (hx.cell (p := ⟨w.heap.size + 1, 1, none⟩) (by show w.heap.size + 1 < _; omega)).trans h3,
    (hx.cell (p := ⟨w.heap.size + 1 + 1, 0, none⟩) h6).trans h4, (hx.cell (p := ⟨w.heap.size + 1 + 1, 1, none⟩) h6).trans h5, Nat.lt_of_lt_of_le h6 hx.size⟩

theorem Reads.start (w : World) (ai bi as' bs' : ByteArray) (ap bp aq bq : Int) : Reads w ai bi ap bp (((w.alloc (.cells #[.string ai, .int .i64 ap, .string as', .int .u64 aq] 32)).alloc (.cells #[.string bi, .int .i64 bp, .string bs', .int .u64 bq] 32)).alloc (.cells #[.string ai, .int .i64 ap] 45)) :=
  ⟨by simp [go_sem], by simp [go_sem], by simp [go_sem], by simp [go_sem], by simp [go_sem], by simp⟩

theorem Reads.after {w W w1 : World} {ai bi : ByteArray} {ap bp : Int} (h : Reads w ai bi ap bp W) (hx : Ext W w1) : w1.cell? ⟨w.heap.size, 0, none⟩ = some (.string ai) ∧ w1.cell? ⟨w.heap.size + 1, 0, none⟩ = some (.string bi) ∧ w1.cell? ⟨w.heap.size + 1, 1, none⟩ = some (.int .i64 bp) ∧
    w1.cell? ⟨w.heap.size + 1 + 1, 0, none⟩ = some (.string ai) ∧ w1.cell? ⟨w.heap.size + 1 + 1, 1, none⟩ = some (.int .i64 ap) := by
  obtain ⟨h1, h2, h3, h4, h5, h6⟩ := h.ext hx
  exact ⟨h1, h2, h3, h4, h5⟩

theorem first_at (ai bi : ByteArray) (ap bp : Int) (W : World) (hbt : better (ai, ap) (bi, bp)) :
    Calls Try.prog 11 #[.slice (some ⟨W.heap.size, 0, none⟩) 2 2] (W.alloc (.cells #[.string ai, .int .i64 ap, .string bi, .int .i64 bp] 45)).drew fun e w1 => e = .returned (.agg #[.string ai, .int .i64 ap]) ∧ Ext W w1 := by
  have hz : W.heap.size < (W.alloc (.cells #[.string ai, .int .i64 ap, .string bi, .int .i64 bp] 45)).drew.heap.size := by
    show W.heap.size < (W.alloc (.cells #[.string ai, .int .i64 ap, .string bi, .int .i64 bp] 45)).heap.size
    simp
  refine (victim_first W.heap.size ai bi ap bp _ hz (by simp [go_sem]) (by simp [go_sem]) (by simp [go_sem]) (by simp [go_sem]) hbt).mono ?_
  rintro e w1 ⟨rfl, hx⟩
  exact ⟨rfl, (((Ext.refl W).alloc _ _).drewN 1).trans hx⟩
theorem second_at (ai bi : ByteArray) (ap bp : Int) (W : World) (hbt : better (bi, bp) (ai, ap)) :
    Calls Try.prog 11 #[.slice (some ⟨W.heap.size, 0, none⟩) 2 2] (W.alloc (.cells #[.string ai, .int .i64 ap, .string bi, .int .i64 bp] 45)).drew fun e w1 => e = .returned (.agg #[.string bi, .int .i64 bp]) ∧ Ext W w1 := by
  have hz : W.heap.size < (W.alloc (.cells #[.string ai, .int .i64 ap, .string bi, .int .i64 bp] 45)).drew.heap.size := by
    show W.heap.size < (W.alloc (.cells #[.string ai, .int .i64 ap, .string bi, .int .i64 bp] 45)).heap.size
    simp
  refine (victim_second W.heap.size ai bi ap bp _ hz (by simp [go_sem]) (by simp [go_sem]) (by simp [go_sem]) (by simp [go_sem]) hbt).mono ?_
  rintro e w1 ⟨rfl, hx⟩
  exact ⟨rfl, (((Ext.refl W).alloc _ _).drewN 1).trans hx⟩

set_option maxHeartbeats 400000 in
theorem prec_yes (ai bi as' bs' : ByteArray) (ap bp aq bq : Int) (w : World) (he : (ai.toList == bi.toList) = false) (hbt : better (ai, ap) (bi, bp)) :
    Calls Try.prog 15 #[.agg #[.string ai, .int .i64 ap, .string as', .int .u64 aq], .agg #[.string bi, .int .i64 bp, .string bs', .int .u64 bq]] w fun e w' => e = .returned (.bool true) ∧ Ext w w' := by
  have hg := guard45
  have hq : ∀ w : World, (Op.equalIn 10000 45 (.agg #[.string ai, .int .i64 ap]) (.agg #[.string ai, .int .i64 ap])).run Try.prog w = .ok true w := fun w => by rw [eq45]; simp
  have hst := Reads.start w ai bi as' bs' ap bp aq bq
  have hE : Ext w (((w.alloc (.cells #[.string ai, .int .i64 ap, .string as', .int .u64 aq] 32)).alloc (.cells #[.string bi, .int .i64 bp, .string bs', .int .u64 bq] 32)).alloc (.cells #[.string ai, .int .i64 ap] 45)) := (((Ext.refl w).alloc _ _).alloc _ _).alloc _ _
  go_enter Try.func15, Try.ntmps15
  go_wp2
  generalize hW : (((w.alloc (.cells #[.string ai, .int .i64 ap, .string as', .int .u64 aq] 32)).alloc (.cells #[.string bi, .int .i64 bp, .string bs', .int .u64 bq] 32)).alloc (.cells #[.string ai, .int .i64 ap] 45)) = W at hst hE ⊢
  clear hW
  have HR := hst
  obtain ⟨h1, h2, h3, h4, h5, h6⟩ := hst
  go_region_held (fun w' => w'.cell? ⟨w.heap.size, 0, none⟩ = some (.string ai) ∧ w'.cell? ⟨w.heap.size + 1, 0, none⟩ = some (.string bi) ∧ w'.cell? ⟨w.heap.size + 1, 1, none⟩ = some (.int .i64 bp) ∧
    w'.cell? ⟨w.heap.size + 1 + 1, 0, none⟩ = some (.string ai) ∧ w'.cell? ⟨w.heap.size + 1 + 1, 1, none⟩ = some (.int .i64 ap)) (go_keep)
    (first | (go_at_call 11; refine (first_at ai bi ap bp W hbt).mono ?_; rintro e w1 ⟨rfl, hx⟩; obtain ⟨k0, k1, k2, k3, k4⟩ := HR.after hx))
  go_wp2
  go_ret
  exact ⟨rfl, hE.trans hx⟩

set_option maxHeartbeats 400000 in
theorem prec_no (ai bi as' bs' : ByteArray) (ap bp aq bq : Int) (w : World) (he : (ai.toList == bi.toList) = false) (hbt : better (bi, bp) (ai, ap)) :
    Calls Try.prog 15 #[.agg #[.string ai, .int .i64 ap, .string as', .int .u64 aq], .agg #[.string bi, .int .i64 bp, .string bs', .int .u64 bq]] w fun e w' => e = .returned (.bool false) ∧ Ext w w' := by
  have hg := guard45
  have hq : ∀ w : World, (Op.equalIn 10000 45 (.agg #[.string bi, .int .i64 bp]) (.agg #[.string ai, .int .i64 ap])).run Try.prog w = .ok false w := fun w => by
    rw [eq45]
    have : (bi.toList == ai.toList) = false := by rw [beq_eq_false_iff_ne] at he ⊢; exact fun e => he e.symm
    rw [this]; rfl
  have hst := Reads.start w ai bi as' bs' ap bp aq bq
  have hE : Ext w (((w.alloc (.cells #[.string ai, .int .i64 ap, .string as', .int .u64 aq] 32)).alloc (.cells #[.string bi, .int .i64 bp, .string bs', .int .u64 bq] 32)).alloc (.cells #[.string ai, .int .i64 ap] 45)) := (((Ext.refl w).alloc _ _).alloc _ _).alloc _ _
  go_enter Try.func15, Try.ntmps15
  go_wp2
  generalize hW : (((w.alloc (.cells #[.string ai, .int .i64 ap, .string as', .int .u64 aq] 32)).alloc (.cells #[.string bi, .int .i64 bp, .string bs', .int .u64 bq] 32)).alloc (.cells #[.string ai, .int .i64 ap] 45)) = W at hst hE ⊢
  clear hW
  have HR := hst
  obtain ⟨h1, h2, h3, h4, h5, h6⟩ := hst
  go_region_held (fun w' => w'.cell? ⟨w.heap.size, 0, none⟩ = some (.string ai) ∧ w'.cell? ⟨w.heap.size + 1, 0, none⟩ = some (.string bi) ∧ w'.cell? ⟨w.heap.size + 1, 1, none⟩ = some (.int .i64 bp) ∧
    w'.cell? ⟨w.heap.size + 1 + 1, 0, none⟩ = some (.string ai) ∧ w'.cell? ⟨w.heap.size + 1 + 1, 1, none⟩ = some (.int .i64 ap)) (go_keep)
    (first | (go_at_call 11; refine (second_at ai bi ap bp W hbt).mono ?_; rintro e w1 ⟨rfl, hx⟩; obtain ⟨k0, k1, k2, k3, k4⟩ := HR.after hx))
  go_wp2
  go_ret
  exact ⟨rfl, hE.trans hx⟩

/-- a candidate as a value -/
def cand (i : ByteArray) (p : Int) (s : ByteArray) (q : Int) : Value := .agg #[.string i, .int .i64 p, .string s, .int .u64 q]

theorem zprec_eq (ai bi as' bs' : ByteArray) (ap bp aq bq : Int) (w : World) (he : (ai.toList == bi.toList) = true) :
    Calls Try.prog 13 #[cand ai ap as' aq, cand bi bp bs' bq] w fun e w' => e = .returned (.bool false) ∧ Ext w w' := by
  unfold cand
  go_enter Try.func13, Try.ntmps13
  go_wp2_with (go_at_call 15; refine (prec_eq _ _ _ _ _ _ _ _ _ he).mono ?_; rintro e w' ⟨rfl, hx⟩)
  go_ret
  exact ⟨rfl, (((Ext.refl w).alloc _ _).alloc _ _).trans hx⟩
theorem zprec_yes (ai bi as' bs' : ByteArray) (ap bp aq bq : Int) (w : World) (he : (ai.toList == bi.toList) = false) (hbt : better (ai, ap) (bi, bp)) :
    Calls Try.prog 13 #[cand ai ap as' aq, cand bi bp bs' bq] w fun e w' => e = .returned (.bool true) ∧ Ext w w' := by
  unfold cand
  go_enter Try.func13, Try.ntmps13
  go_wp2_with (go_at_call 15; refine (prec_yes _ _ _ _ _ _ _ _ _ he hbt).mono ?_; rintro e w' ⟨rfl, hx⟩)
  go_ret
  exact ⟨rfl, (((Ext.refl w).alloc _ _).alloc _ _).trans hx⟩
theorem zprec_no (ai bi as' bs' : ByteArray) (ap bp aq bq : Int) (w : World) (he : (ai.toList == bi.toList) = false) (hbt : better (bi, bp) (ai, ap)) :
    Calls Try.prog 13 #[cand ai ap as' aq, cand bi bp bs' bq] w fun e w' => e = .returned (.bool false) ∧ Ext w w' := by
  unfold cand
  go_enter Try.func13, Try.ntmps13
  go_wp2_with (go_at_call 15; refine (prec_no _ _ _ _ _ _ _ _ _ he hbt).mono ?_; rintro e w' ⟨rfl, hx⟩)
  go_ret
  exact ⟨rfl, (((Ext.refl w).alloc _ _).alloc _ _).trans hx⟩

/-- zzCand -/
theorem zcand (i : ByteArray) (p : Int) (s : ByteArray) (q : Int) (w : World) : Calls Try.prog 12 #[cand i p s q] w fun e w' => e = .returned (cand i p s q) ∧ Ext w w' := by
  unfold cand
  go_enter Try.func12, Try.ntmps12
  go_wp2
  refine bodyPost_ret (v := .agg #[.string i, .int .i64 p, .string s, .int .u64 q]) (by simp [results, Try.results12, go_sem]) rfl ⟨rfl, ?_⟩
  exact ((Ext.refl w).alloc _ _).alloc _ _

end Go.Proofs.Qxb6614652a.Victim
