/-
  A proof of 'Rows.FnVictimOfAListPrecedesEveryOtherTxnSaid'. The frame: after the guide's skeleton for a law over a slice (the argument read again by 'Below.trod'); the walk: Qxb6614652aLaw.
-/
import Derived.Test.Qxb6614652aRows
import Derived.Test.Qxb6614652aLaw
import Derived.WalkKit
import Derived.ProofKit
import Derived.OpenShut
import Derived.ShutString
import Derived.ChangeOld
import Derived.Below
import Derived.Deep.Slices
import Derived.Lib.SmallJoins
namespace Go.Proofs.Qxb6614652a.fnVictimOfAListPrecedesEveryOtherTxn
open Go.ChangeShapes Go.WideShapes Go.ChangeAt Go.RowKit Victim Marks
set_option linter.unusedVariables false

theorem own : ownKnob Try.prog.godebug = none := by kernel_rfl
theorem laidOut : laidOutB Try.prog = true := by kernel_rfl
theorem cells42 : Try.prog.cellsOf 42 = 4 := by kernel_rfl
theorem cells9 : Try.prog.cellsOf 9 = 1 := by kernel_rfl
theorem cells2 : Try.prog.cellsOf 2 = 1 := by kernel_rfl
theorem cells22 : Try.prog.cellsOf 22 = 1 := by kernel_rfl

/-- one candidate out of its reading: its four cells -/
theorem one_cand {H : Type} {enc : TypeId × Value → H} {W : World} {sp : Nat → Bool} {held : Bool} {n : Nat} {a : Addr} {cs : List Value} {x : DataW H × List MemPlace}
    (h1 : W.cells? 0 a 4 = some cs) (h2 : DataW.trod enc Try.prog W 0 sp held n 42 cs = some x) :
    ∃ (s : ByteArray) (p : Int) (t : ByteArray) (q : Int), W.cell? (a.add 0) = some (.string s) ∧ W.cell? (a.add 1) = some (.int .i64 p) ∧ W.cell? (a.add 2) = some (.string t) ∧ W.cell? (a.add 3) = some (.int .u64 q) := by
  obtain ⟨_, hlen, hc⟩ := World.cells?_some h1
  obtain ⟨y0, y1, y2, y3, m, _, _, g0, g1, g2, g3⟩ := Joins.trod_struct4 Try.underlying42 h2
  match cs, hlen with
  | [v0, v1, v2, v3], _ =>
    simp [cells9, cells2, cells22] at g0 g1 g2 g3
    obtain ⟨s, e0, _, _⟩ := DataW.trod_string Try.underlying9 g0
    obtain ⟨p, e1, _, _⟩ := DataW.trod_int Try.underlying2 g1
    obtain ⟨t, e2, _, _⟩ := DataW.trod_string Try.underlying9 g2
    obtain ⟨q, e3, _, _⟩ := DataW.trod_int Try.underlying22 g3
    simp at e0 e1 e2 e3
    subst e0 e1 e2 e3
    have k0 := hc 0 (by omega)
    exact ⟨s, p, t, q, k0, hc 1 (by omega), hc 2 (by omega), hc 3 (by omega)⟩

/-- the argument out of its reading -/
theorem cands_of {H : Type} {enc : TypeId × Value → H} {W : World} {sp : Nat → Bool} {held : Bool} {n : Nat} {a0 : Option Addr} {len cap : Nat} {x : DataW H × List MemPlace}
    (hf : DataW.trod enc Try.prog W 0 sp held n 39 [.slice a0 len cap] = some x) :
    len = 0 ∨ (len ≤ maxLen ∧ ∃ b off I Pr St Sq, a0 = some ⟨b, off, none⟩ ∧ Cands W b off len I Pr St Sq) := by
  rcases Deep.open_slice Try.underlying39 hf with ⟨hcs, _⟩ | ⟨a, l, c, m, nn, D, Pl, hcs, _, hl, hm, hmm, _, hel⟩
  · simp at hcs
    exact .inl hcs.2.1
  · simp at hcs
    obtain ⟨rfl, rfl, rfl⟩ := hcs
    by_cases h0 : len = 0
    · exact .inl h0
    right
    have hle : len ≤ m := by rw [hmm]; split <;> omega
    rw [cells42] at hel
    obtain ⟨f, hF⟩ := Deep.choose_lt (α := ByteArray × Int × ByteArray × Int) (n := len) (p := fun i y => W.cell? ((a.add (i * 4)).add 0) = some (.string y.1) ∧ W.cell? ((a.add (i * 4)).add 1) = some (.int .i64 y.2.1) ∧ W.cell? ((a.add (i * 4)).add 2) = some (.string y.2.2.1) ∧ W.cell? ((a.add (i * 4)).add 3) = some (.int .u64 y.2.2.2)) (fun i hi => by
      obtain ⟨cs, g1, g2⟩ := hel i (by omega)
      obtain ⟨s, p, t, q, k0, k1, k2, k3⟩ := one_cand g1 g2
      exact ⟨(s, p, t, q), k0, k1, k2, k3⟩)
    obtain ⟨b, off, spot⟩ := a
    have h00 := (hF 0 (by omega)).1
    have hspot : spot = none := by simpa [Addr.add] using World.cell?_spot h00
    subst hspot
    refine ⟨by omega, b, off, fun i => (f i).1, fun i => (f i).2.1, fun i => (f i).2.2.1, fun i => (f i).2.2.2, rfl, ?_⟩
    simp only [add_plain, Nat.add_zero] at hF h00
    exact ⟨World.block_lt_of_cell? _ _ h00, fun i hi => (hF i hi).1, fun i hi => (hF i hi).2.1, fun i hi => (hF i hi).2.2.1, fun i hi => (hF i hi).2.2.2⟩

/-! ### THE WALK -/
theorem walk (a0 : Option Addr) (len cap : Nat) (w : World) (h : len = 0 ∨ (len ≤ maxLen ∧ ∃ b off I Pr St Sq, a0 = some ⟨b, off, none⟩ ∧ Cands w b off len I Pr St Sq)) :
    Calls Try.prog 5 #[.slice a0 len cap] w fun e w' => e = .returned (.bool true) ∧ Below w.heap.size w w' := by
  rcases h with rfl | ⟨hm, b, off, I, Pr, St, Sq, rfl, hc⟩
  · exact (law_zero a0 cap w).mono fun e w' ⟨he, hx⟩ => ⟨he, hx.1⟩
  · by_cases h0 : len = 0
    · subst h0
      exact (law_zero _ cap w).mono fun e w' ⟨he, hx⟩ => ⟨he, hx.1⟩
    · by_cases hn : len ≤ 65536
      · exact (law_main b off len cap I Pr St Sq w hc hn (by omega)).mono fun e w' ⟨he, hx⟩ => ⟨he, hx.1⟩
      · exact (law_long b off len cap I Pr St Sq w hc hm (by omega)).mono fun e w' ⟨he, hx⟩ => ⟨he, hx.1⟩

/-! ### THE ROW's STEP -/
set_option maxRecDepth 100000 in
theorem lifted (os : Os) (started : os.Started) (H : Type) (enc : TypeId × Value → H) :
    ReturnsInHanded {} Try.checked os 5 .any (Rows.fnVictimOfAListPrecedesEveryOtherTxnSpec.pre6 enc Try.prog Try.f5 Rows.fnVictimOfAListPrecedesEveryOtherTxnRow.domain false) (Rows.fnVictimOfAListPrecedesEveryOtherTxnSpec.post enc Try.prog Try.f5 false true false false) := by
  refine returnsInHanded_of_change (C := Try.checked) own started (by kernel_rfl) Try.func5
    (ChangeSpec.witness6 (enc := enc) (C := Try.checked) false ⟨#[], #[.slice none 0 0], []⟩ 8 (by kernel_rfl) (by kernel_rfl) (by kernel_rfl) (by kernel_rfl)) ?_
  intro W base args ds gs before hval0 hW hcnd _
  have hval : ∀ (j : Nat) t v, Try.f5.params[j]? = some t → args[j]? = some v → Value.okWide Try.prog W .any base t v := hval0
  have hW' := hW
  obtain ⟨p, q, hA0, hV, rfl, hfz, hnd⟩ := hW
  have hA : DataW.TrodAll enc Try.prog W 0 (fun _ => true) true Try.f5.params.toList args.toList ds p := hA0
  rw [Try.params5] at hA hval
  obtain ⟨v0, vs0, d0, ds0, p0, q0, hargs, rfl, rfl, h0, r0⟩ := trodAll_cons hA
  obtain ⟨rfl, rfl, rfl⟩ := trodAll_nil r0
  obtain rfl : args = #[v0] := by cases args; simp_all
  obtain ⟨rfl, rfl⟩ := trodVars_none hV
  obtain ⟨a0, len0, cap0, rfl⟩ := okWide_slice Try.underlying39 (hval 0 39 v0 rfl rfl)
  have k0 := h0
  have lt0 : ∀ x ∈ p0, x.block < W.heap.size := by obtain ⟨m, hm⟩ := k0; exact DataW.trod_lt m _ _ _ hm
  have w0 : len0 = 0 ∨ (len0 ≤ maxLen ∧ ∃ b off I Pr St Sq, a0 = some ⟨b, off, none⟩ ∧ Cands W b off len0 I Pr St Sq) := by
    obtain ⟨fuel, hf⟩ := h0
    exact cands_of hf
  clear hA0 hval0
  refine (walk a0 len0 cap0 W w0).mono fun e W' ⟨he, bel⟩ => ?_
  subst he
  exact ⟨_, rfl, _, _, _, [], _, [], hW', trodAll_mk1 (shut_bool Try.underlying4 _), (trodAll_cons_mk (Below.trod laidOut (by kernel_rfl) (of_decide_eq_true (by kernel_rfl)) k0 bel lt0) trodAll_mk0), rfl, bel.frame _, fun h => by cases h⟩

theorem over : Rows.fnVictimOfAListPrecedesEveryOtherTxnRow.holds Try.pinned (OpenSpec.ofChange Rows.fnVictimOfAListPrecedesEveryOtherTxnSpec) :=
  OpenClaim.holds_of_wide 5 Try.f5 rfl rfl rfl rfl rfl rfl rfl ⟨rfl, rfl, rfl, rfl, rfl⟩ rfl rfl rfl rfl rfl (by kernel_rfl) Try.func5 (by kernel_rfl)
    (of_decide_eq_true (by kernel_rfl)) (by unfold Func.isWrapper; first | (rw [if_pos (by decide +kernel)]; kernel_rfl) | (rw [if_neg (by decide +kernel)]; exact ⟨rfl, rfl⟩))
    (fun os started H enc _ => lifted os started H enc)

/-- ████ THE STATEMENT ████ -/
theorem proved : Rows.FnVictimOfAListPrecedesEveryOtherTxnSaid := over
end Go.Proofs.Qxb6614652a.fnVictimOfAListPrecedesEveryOtherTxn
