import Derived.Test.Qxb6614652aRows
import Derived.WalkKit
import Derived.ProofKit
import Derived.OpenShut
import Derived.ShutString
import Derived.Deep.QuietTactic
import Derived.BigQuiet
import Derived.Outline
namespace Go.Proofs.Qxb6614652a.Marks
open Go.ChangeShapes Go.WideShapes Go.ChangeAt Go.RowKit
set_option linter.unusedVariables false

/-- new blocks alone: what lay there reads as it did -/
def Ext (w w' : World) : Prop := Below w.heap.size w w' ∧ Grown w w'
theorem Ext.refl (w : World) : Ext w w := ⟨Below.refl _ _, Grown.refl _⟩
theorem Grown.trans {a b c : World} (h : Grown a b) (k : Grown b c) : Grown a c :=
  ⟨World.keptBut_trans h.1 (World.keptBut_mono (fun _ f => f.elim) k.1), fun x => (k.2.1 x).trans (h.2.1 x), Nat.le_trans h.2.2 k.2.2⟩
theorem Ext.trans {a b c : World} (h : Ext a b) (k : Ext b c) : Ext a c :=
  ⟨h.1.trans (k.1.mono h.1.size), Grown.trans h.2 k.2⟩
theorem Ext.alloc {a b : World} (h : Ext a b) (c : Array Value) (t : TypeId) : Ext a (b.alloc (.cells c t)) :=
  ⟨h.1.alloc h.1.size _, h.2.alloc c t⟩
theorem Ext.setCell {a b : World} (h : Ext a b) {p : Addr} (hp : a.heap.size ≤ p.block) (v : Value) : Ext a (b.setCell p v) :=
  ⟨h.1.setCell hp v, h.2.setCell hp v⟩
theorem Ext.drewN {a b : World} (h : Ext a b) (n : Nat) : Ext a (b.drewN n) := by
  induction n with
  | zero => exact h
  | succ n ih => exact ⟨ih.1.drew, ih.2.drew⟩
theorem Ext.cell {a b : World} (h : Ext a b) {p : Addr} (hp : p.block < a.heap.size) : b.cell? p = a.cell? p := h.1.cell hp
theorem Ext.frozen {a b : World} (h : Ext a b) (p : Addr) : b.frozen? p = a.frozen? p := h.2.2.1 p
theorem Ext.size {a b : World} (h : Ext a b) : a.heap.size ≤ b.heap.size := h.1.size

/-- (mark).relies: a mark spent by itself -/
theorem relies_spent (c0 c1 c2 c3 c4 c5 c6 c7 c8 c9 : Value) (m : Int) (p : Value) (w : World) :
    Calls Try.prog 14 #[.agg #[c0, c1, c2, c3, c4, c5, c6, c7, c8, c9, .bool true, .int .u64 m, p]] w fun e w' => e = .returned (.bool false) ∧ Ext w w' := by
  go_enter Try.func14, Try.ntmps14
  go_wp2
  go_quiet (fail)
  go_wp2
  go_ret
  exact ⟨rfl, ((Ext.refl _).alloc _ _).drewN _⟩

theorem relies_not (c0 c1 c2 c3 c4 c5 c6 c7 c8 c9 : Value) (m s : Int) (b : Nat) (w : World) (hb : b < w.heap.size) (hc : w.cell? ⟨b, 1, none⟩ = some (.int .u64 s)) :
    Calls Try.prog 14 #[.agg #[c0, c1, c2, c3, c4, c5, c6, c7, c8, c9, .bool false, .int .u64 m, .pointer (some ⟨b, 0, none⟩)]] w fun e w' => e = .returned (.bool (decide (s < m))) ∧ Ext w w' := by
  go_enter Try.func14, Try.ntmps14
  go_wp2
  go_quiet (fail)
  go_wp2
  go_ret
  exact ⟨rfl, ((Ext.refl _).alloc _ _).drewN _⟩

theorem new_any (m s : Int) (d : Bool) (w : World) :
    Calls Try.prog 7 #[.int .i64 m, .int .u64 s, .bool d] w fun e w' => e = .returned (.pointer (some ⟨w.heap.size, 0, none⟩)) ∧ w' = w.alloc (.cells #[.int .i64 m, .int .u64 s, .bool d] 50) := by
  go_enter Try.func7, Try.ntmps7
  go_wp2
  go_ret
  exact ⟨rfl, rfl⟩

/-- a mark as ZZmarkOn makes it -/
def mk (a : Option Addr) (s : Bool) (m : Int) : Value := .agg #[.pointer none, .string ⟨#[]⟩, .int .i64 0, .string ⟨#[]⟩, .int .u64 0, .bool false, .bool false, .slice none 0 0, .pointer none, .bool false, .bool s, .int .u64 m, .pointer a]

theorem on_any (a : Option Addr) (s : Bool) (m : Int) (w : World) :
    Calls Try.prog 9 #[.pointer a, .bool s, .int .u64 m] w fun e w' => e = .returned (mk a s m) ∧ Ext w w' := by
  go_enter Try.func9, Try.ntmps9
  go_wp2
  refine bodyPost_ret (v := mk a s m) (by simp [results, Try.results9, go_sem, mk]) rfl ⟨rfl, ?_⟩
  exact (Ext.refl _).alloc _ _

theorem rely_any (b : Nat) (t : Int) (s : Bool) (m : Int) (w : World) (hb : b < w.heap.size) (hc : w.cell? ⟨b, 1, none⟩ = some (.int .u64 t)) :
    Calls Try.prog 8 #[mk (some ⟨b, 0, none⟩) s m] w fun e w' => e = .returned (.bool (!s && decide (t < m))) ∧ Ext w w' := by
  cases s
  · unfold mk
    go_enter Try.func8, Try.ntmps8
    go_wp2_with (go_at_call 14; refine (relies_not _ _ _ _ _ _ _ _ _ _ m t b _ ?_ ?_).mono ?_)
    · simp; omega
    · exact (((Ext.refl w).alloc _ _).cell (p := ⟨b, 1, none⟩) hb).trans hc
    · rintro e w' ⟨rfl, hw⟩
      go_wp2
      go_ret
      exact ⟨rfl, ((Ext.refl _).alloc _ _).trans hw⟩
  · unfold mk
    go_enter Try.func8, Try.ntmps8
    go_wp2_with (go_at_call 14; refine (relies_spent _ _ _ _ _ _ _ _ _ _ m _ _).mono ?_; rintro e w' ⟨rfl, hw⟩)
    go_ret
    exact ⟨rfl, ((Ext.refl _).alloc _ _).trans hw⟩

/-- zzRelies -/
theorem zz_any (s : Bool) (m pm t : Int) (d : Bool) (w : World) :
    Calls Try.prog 6 #[.bool s, .int .u64 m, .int .i64 pm, .int .u64 t, .bool d] w fun e w' => e = .returned (.bool (!s && decide (t < m))) ∧ Ext w w' := by
  go_enter Try.func6, Try.ntmps6
  go_wp2_with (go_at_call 7; refine (new_any pm t d _).mono ?_; rintro e w' ⟨rfl, hw⟩; subst hw)
  go_wp2_with (go_at_call 9; refine (on_any _ s m _).mono ?_)
  rintro e w' ⟨rfl, hw⟩
  go_wp2_with (go_at_call 8; refine (rely_any w.heap.size t s m _ ?_ ?_).mono ?_)
  · have := hw.size; simp at this; omega
  · rw [hw.cell (by simp)]; simp [go_sem]
  · rintro e w2 ⟨rfl, hw2⟩
    go_wp2
    go_ret
    exact ⟨rfl, (((Ext.refl _).alloc _ _).trans hw).trans hw2⟩
end Go.Proofs.Qxb6614652a.Marks
