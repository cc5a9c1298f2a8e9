/-
  A proof of 'Rows.FnSeenForGivesAFreshEmptySetOnlyForDistinctSaid'. The frame: the guide's skeleton; the maps: the laws of Derived.Maps.OwnSet, and one of our own on elements that are bools.
-/
import Derived.Test.Qxb6605646aRows
import Derived.WalkKit
import Derived.ProofKit
import Derived.OpenShut
import Derived.ShutString
import Derived.Maps.OwnSet
import Derived.WalkSpells
namespace Go.Proofs.Qxb6605646a.fnSeenForGivesAFreshEmptySetOnlyForDistinct
open Go.ChangeShapes Go.WideShapes Go.ChangeAt Go.RowKit
open Go.ChangeMaps (open_string shut_string)
open Go.Maps
set_option linter.unusedVariables false      -- a walk need not use every 'w<i>' (that an integer argument fits its kind)

theorem own : ownKnob Try.prog.godebug = none := by kernel_rfl

theorem law : Keyed Try.prog 9 := string_keyed Try.underlying9
theorem zeroE (w : World) : (zeroValue 4).run Try.prog w = .ok (.bool false) w := by kernel_rfl

/-- zzBytes -/
theorem bytes_any (a0 : Bool) (a1 : ByteArray) (w : World) (h : a1.size ≤ maxLen) : Calls Try.prog 4 #[.bool a0, .string a1] w fun e w' => (∃ b, e = .returned (.bool b)) ∧ w' = w := by
  unfold maxLen at h
  by_cases hs : a1.size ≤ 1048576
  · go_enter Try.func4, Try.ntmps4
    go_wp2
    go_ret
    exact ⟨⟨_, rfl⟩, rfl⟩
  · go_enter Try.func4, Try.ntmps4
    go_wp2
    go_ret
    exact ⟨⟨_, rfl⟩, rfl⟩

theorem seen_no (w : World) : Calls Try.prog 5 #[.bool false] w fun e w' => e = .returned (.map none) ∧ w' = w := by
  go_enter Try.func5, Try.ntmps5
  go_wp2
  go_ret
  exact ⟨rfl, rfl⟩

theorem seen_yes (w : World) : Calls Try.prog 5 #[.bool true] w fun e w' => e = .returned (.map (some w.heap.size)) ∧ w' = w.alloc (.map #[] 0) := by
  have hmm := @run_makeMap Try.prog
  go_enter Try.func5, Try.ntmps5
  go_wp2
  go_ret
  exact ⟨rfl, rfl⟩

theorem plainElem_bool_inv {v : Value} {z : DataW Unit × List MemPlace} {x : Bool} (h : plainElem Try.prog 4 v = some z) (hz : z.1 = .lit (.bool x)) : v = .bool x := by
  unfold plainElem at h
  cases v <;> simp [Try.underlying4] at h
  subst h
  simpa using hz

/-- two empty sets; a key goes into the first -/
theorem sets (w : World) (s : ByteArray) (hs : s.size ≤ maxLen) : ∃ W3 : World,
    (Instr.mapUpdate 23 (.map (some w.heap.size)) (.string s) (.bool true)).run Try.prog ((w.alloc (.map #[] 0)).alloc (.map #[] 0)) = .ok () W3 ∧
    (Builtin.len_ #[23] 3 #[.map (some w.heap.size)]).run Try.prog ((w.alloc (.map #[] 0)).alloc (.map #[] 0)) = .ok (.int .i64 0) ((w.alloc (.map #[] 0)).alloc (.map #[] 0)) ∧
    (Builtin.len_ #[23] 3 #[.map (some (w.heap.size + 1))]).run Try.prog ((w.alloc (.map #[] 0)).alloc (.map #[] 0)) = .ok (.int .i64 0) ((w.alloc (.map #[] 0)).alloc (.map #[] 0)) ∧
    (Instr.lookup 23 (.map (some w.heap.size)) (.string s) false).run Try.prog W3 = .ok (.bool true) W3 ∧
    (Builtin.len_ #[23] 3 #[.map (some w.heap.size)]).run Try.prog W3 = .ok (.int .i64 1) W3 ∧
    (Instr.lookup 23 (.map (some (w.heap.size + 1))) (.string s) false).run Try.prog W3 = .ok (.bool false) W3 ∧
    (Builtin.len_ #[23] 3 #[.map (some (w.heap.size + 1))]).run Try.prog W3 = .ok (.int .i64 0) W3 ∧ Grown w W3 := by
  have hk := WideMaps.keyOf_string_mk (P := Try.prog) Try.underlying9 hs
  have h1 : ((w.alloc (.map #[] 0)).alloc (.map #[] 0)).ownsMap Try.prog 9 (plainElem (H := Unit) Try.prog 4) w.heap.size 0 (.map []) := (World.ownsMap_made w _ _ _).alloc _
  have h2 : ((w.alloc (.map #[] 0)).alloc (.map #[] 0)).ownsMap Try.prog 9 (plainElem (H := Unit) Try.prog 4) (w.heap.size + 1) 0 (.map []) := by
    have := World.ownsMap_made (w.alloc (.map #[] 0)) Try.prog 9 (plainElem (H := Unit) Try.prog 4)
    simpa using this
  obtain ⟨W3, hrun, ho, ht⟩ := h1.store law Try.underlying23 (by unfold maxLen; omega) hk (plainElem_bool Try.underlying4 true)
  have h2' := h2.kept ht.grown (by simp)
  obtain ⟨v1, ps1, hl1, hv1⟩ := ho.lookup law Try.underlying23 (zeroE _) (plainElem_bool Try.underlying4 false) hk
  obtain ⟨v2, ps2, hl2, hv2⟩ := h2'.lookup law Try.underlying23 (zeroE _) (plainElem_bool Try.underlying4 false) hk
  obtain rfl : v1 = .bool true := plainElem_bool_inv hv1 (atKey_put_same isMap_empty (by simp [WideAt.IsKeyLit]) _ _)
  obtain rfl : v2 = .bool false := plainElem_bool_inv hv2 rfl
  refine ⟨W3, hrun, h1.len Try.underlying23 3, h2.len Try.underlying23 3, hl1, ?_, hl2, h2'.len Try.underlying23 3, ?_⟩
  · have := ho.len Try.underlying23 3
    rw [size_put tidy_empty] at this
    exact this
  · have hb : Below w.heap.size w W3 := (((Below.refl _ _).alloc (Nat.le_refl _) _).alloc (by simp) _).grown ht.grown (by simp; omega) (fun k hk => by cases hk; exact Nat.le_refl _)
    have hg : Grown w ((w.alloc (.map #[] 0)).alloc (.map #[] 0)) := ((Grown.refl w).allocMap _ _).allocMap _ _
    exact ⟨hb.frame _, fun a => (ht.frozen a).trans (hg.2.1 a), hb.size⟩

/-! ### STEP 1: THE WALK -/
theorem walk (a0 : Bool) (a1 : ByteArray) (w1 : a1.size ≤ maxLen) (w : World) :
    Calls Try.prog 3 #[.bool a0, .string a1] w fun e w' => e = .returned (.bool true) ∧ Grown w w' := by
  have q23 : ∀ (w : World) (r : Option Nat), (binOp .eql 23 (.map r) (.map none)).run Try.prog w = .ok (.bool r.isNone) w := fun w r => run_eql_map_nil w _ _ _ r Try.underlying23
  cases a0
  · go_enter Try.func3, Try.ntmps3
    go_wp2_with (first | (go_at_call 4; refine (bytes_any _ _ _ w1).mono ?_; rintro e w' ⟨⟨b, rfl⟩, rfl⟩) | (go_at_call 5; refine (seen_no _).mono ?_; rintro e w' ⟨rfl, rfl⟩))
    all_goals
      go_ret
      exact ⟨rfl, Grown.refl _⟩
  · obtain ⟨W3, f1, f2, f3, f4, f5, f6, f7, f8⟩ := sets w a1 w1
    go_enter Try.func3, Try.ntmps3
    go_wp2_with (first | (go_at_call 4; refine (bytes_any _ _ _ w1).mono ?_; rintro e w' ⟨⟨b, rfl⟩, rfl⟩) | (go_at_call 5; refine (seen_yes _).mono ?_; rintro e w' ⟨rfl, rfl⟩))
    all_goals go_ret
    · exact ⟨rfl, Grown.refl _⟩
    · exact ⟨rfl, Grown.refl _⟩
    · exact ⟨rfl, f8⟩

/-! ### THE ROW's STEP: WRITTEN OUT: LEAVE IT -/
set_option maxRecDepth 100000 in
theorem lifted (os : Os) (started : os.Started) (H : Type) (enc : TypeId × Value → H) :
    ReturnsInHanded {} Try.checked os 3 .any (Rows.fnSeenForGivesAFreshEmptySetOnlyForDistinctSpec.pre6 enc Try.prog Try.f3 Rows.fnSeenForGivesAFreshEmptySetOnlyForDistinctRow.domain false) (Rows.fnSeenForGivesAFreshEmptySetOnlyForDistinctSpec.post enc Try.prog Try.f3 false true false false) := by
  refine returnsInHanded_of_change (C := Try.checked) own started (by kernel_rfl) Try.func3
    (ChangeSpec.witness6 (enc := enc) (C := Try.checked) false ⟨#[], #[.bool false, .string ByteArray.empty], []⟩ 8 (by kernel_rfl) (by kernel_rfl) (by kernel_rfl) (by kernel_rfl)) ?_
  intro W base args ds gs before hval0 hW hcnd _
  have hval : ∀ (j : Nat) t v, Try.f3.params[j]? = some t → args[j]? = some v → Value.okWide Try.prog W .any base t v := hval0
  have hW' := hW
  obtain ⟨p, q, hA0, hV, rfl, hfz, hnd⟩ := hW
  have hA : DataW.TrodAll enc Try.prog W 0 (fun _ => true) true Try.f3.params.toList args.toList ds p := hA0
  rw [Try.params3] at hA hval
  obtain ⟨v0, vs0, d0, ds0, p0, q0, hargs, rfl, rfl, h0, r0⟩ := trodAll_cons hA
  obtain ⟨v1, vs1, d1, ds1, p1, q1, rfl, rfl, rfl, h1, r1⟩ := trodAll_cons r0
  obtain ⟨rfl, rfl, rfl⟩ := trodAll_nil r1
  obtain rfl : args = #[v0, v1] := by cases args; simp_all
  obtain ⟨rfl, rfl⟩ := trodVars_none hV
  obtain ⟨a0, rfl, rfl, rfl⟩ := open_bool Try.underlying4 (hval 0 4 v0 rfl rfl) h0
  obtain ⟨a1, rfl, rfl, rfl, w1⟩ := open_string Try.underlying9 (hval 1 9 v1 rfl rfl) h1
  clear hA0 hval0
  simp only [List.append_nil] at hW'
  refine (walk a0 a1 w1 W).mono fun e W' ⟨he, hg⟩ => ?_
  subst he
  exact ⟨_, rfl, post_of_same (pa := []) (pv := []) hW' (fun _ _ _ => (trodAll_cons_mk (shut_bool Try.underlying4 _) trodAll_mk0)) (fun sp _ => (trodAll_cons_mk (shut_bool Try.underlying4 _) (trodAll_cons_mk (shut_string Try.underlying9 w1) trodAll_mk0))) (fun _ _ => rfl) rfl
    (hg.frame _) hg.2.1 (ok_one (by kernel_rfl) rfl (okWide_bool_mk Try.underlying4 _))⟩

theorem over : Rows.fnSeenForGivesAFreshEmptySetOnlyForDistinctRow.holds Try.pinned (OpenSpec.ofChange Rows.fnSeenForGivesAFreshEmptySetOnlyForDistinctSpec) :=
  OpenClaim.holds_of_wide 3 Try.f3 rfl rfl rfl rfl rfl rfl rfl ⟨rfl, rfl, rfl, rfl, rfl⟩ rfl rfl rfl rfl rfl (by kernel_rfl) Try.func3 (by kernel_rfl)
    (of_decide_eq_true (by kernel_rfl)) (by unfold Func.isWrapper; first | (rw [if_pos (by decide +kernel)]; kernel_rfl) | (rw [if_neg (by decide +kernel)]; exact ⟨rfl, rfl⟩))
    (fun os started H enc _ => lifted os started H enc)

/-- ████ THE STATEMENT ████ -/
theorem proved : Rows.FnSeenForGivesAFreshEmptySetOnlyForDistinctSaid :=
  over
end Go.Proofs.Qxb6605646a.fnSeenForGivesAFreshEmptySetOnlyForDistinct
