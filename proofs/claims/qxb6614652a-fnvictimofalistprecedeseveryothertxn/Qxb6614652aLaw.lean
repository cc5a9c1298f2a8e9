import Derived.Test.Qxb6614652aList
import Derived.Laws.MakeOwn
namespace Go.Proofs.Qxb6614652a.Victim
open Go.ChangeShapes Go.WideShapes Go.ChangeAt Go.RowKit Marks Order
set_option linter.unusedVariables false

theorem bytes_zero (a : Option Addr) (cap : Nat) (w : World) : Calls Try.prog 10 #[.slice a 0 cap] w fun e w' => SomeBool e ∧ w' = w := by
  go_enter Try.func10, Try.ntmps10
  go_wp2
  refine wp_loop_rounds 1 ?_
  rw [rounds_succ]
  go_wp2
  go_ret
  exact ⟨⟨_, rfl⟩, rfl⟩

theorem law_zero (a : Option Addr) (cap : Nat) (w : World) : Calls Try.prog 5 #[.slice a 0 cap] w fun e w' => e = .returned (.bool true) ∧ Ext w w' := by
  go_enter Try.func5, Try.ntmps5
  go_wp2_with (go_at_call 10; refine (bytes_zero _ _ _).mono ?_; rintro e w' ⟨⟨r, rfl⟩, hw⟩; replace hw := hw.symm; subst hw)
  · go_ret
    exact ⟨rfl, Ext.refl _⟩
  · refine wp_loop_rounds 1 ?_
    rw [rounds_succ]
    go_wp2
    go_ret
    exact ⟨rfl, Ext.refl _⟩

theorem law_long (b off n cap : Nat) (I : Nat → ByteArray) (Pr : Nat → Int) (St : Nat → ByteArray) (Sq : Nat → Int) (w : World) (h : Cands w b off n I Pr St Sq) (hm : n ≤ maxLen) (hn : 65536 < n) :
    Calls Try.prog 5 #[.slice (some ⟨b, off, none⟩) n cap] w fun e w' => e = .returned (.bool true) ∧ Ext w w' := by
  have hn' : decide ((65536 : Int) < (n : Int)) = true := decide_eq_true (by omega)
  go_enter Try.func5, Try.ntmps5
  go_wp2_with (go_at_call 10; refine (bytes_any b off n cap I Pr St Sq _ h hm).mono ?_; rintro e w' ⟨⟨r, rfl⟩, hw⟩; replace hw := hw.symm; subst hw)
  all_goals
    go_ret
    exact ⟨rfl, Ext.refl _⟩

/-- the members as they are filled in: the first k hold ids and priorities -/
structure Mems (w wr : World) (n k : Nat) (I : Nat → ByteArray) (Pr : Nat → Int) : Prop where
  cells : ∀ i, i < n → ∃ s p, wr.cell? ⟨w.heap.size, i * 2, none⟩ = some (.string s) ∧ wr.cell? ⟨w.heap.size, i * 2 + 1, none⟩ = some (.int .i64 p) ∧ (i < k → s = I i ∧ p = Pr i)
  fz : ∀ j, wr.frozen? ⟨w.heap.size, j, none⟩ = false
  sz : w.heap.size < wr.heap.size
  ex : Ext w wr

theorem Mems.full {w wr : World} {n : Nat} {I : Nat → ByteArray} {Pr : Nat → Int} (h : Mems w wr n n I Pr) (i : Nat) (hi : i < n) :
    wr.cell? ⟨w.heap.size, 0 + i * 2, none⟩ = some (.string (I i)) ∧ wr.cell? ⟨w.heap.size, 0 + i * 2 + 1, none⟩ = some (.int .i64 (Pr i)) := by
  obtain ⟨s, p, h1, h2, h3⟩ := h.cells i hi
  obtain ⟨rfl, rfl⟩ := h3 hi
  rw [Nat.zero_add]
  exact ⟨h1, h2⟩

theorem Mems.drew {w wr : World} {n k : Nat} {I : Nat → ByteArray} {Pr : Nat → Int} (h : Mems w wr n k I Pr) : Mems w wr.drew n k I Pr :=
  ⟨h.cells, h.fz, h.sz, h.ex.drewN 1⟩

theorem Mems.store {w wr : World} {n k : Nat} {I : Nat → ByteArray} {Pr : Nat → Int} (h : Mems w wr n k I Pr) (hk : k < n) :
    Mems w ((wr.setCell ⟨w.heap.size, k * 2, none⟩ (.string (I k))).setCell ⟨w.heap.size, k * 2 + 1, none⟩ (.int .i64 (Pr k))) n (k + 1) I Pr where
  cells := fun i hi => by
    by_cases e : i = k
    · subst e
      obtain ⟨s, p, h1, h2, _⟩ := h.cells i hi
      refine ⟨I i, Pr i, ?_, ?_, fun _ => ⟨rfl, rfl⟩⟩
      · rw [World.cell?_setCell_other _ _ _ _ (by simp)]; exact World.cell?_setCell_same _ _ _ h1
      · exact World.cell?_setCell_same _ _ _ ((World.cell?_setCell_other _ _ _ _ (by simp)).trans h2)
    · obtain ⟨s, p, h1, h2, h3⟩ := h.cells i hi
      refine ⟨s, p, ?_, ?_, fun hl => h3 (by omega)⟩
      · rw [World.cell?_setCell_other _ _ _ _ (by simp <;> omega), World.cell?_setCell_other _ _ _ _ (by simp <;> omega)]; exact h1
      · rw [World.cell?_setCell_other _ _ _ _ (by simp <;> omega), World.cell?_setCell_other _ _ _ _ (by simp <;> omega)]; exact h2
  fz := fun j => (World.frozen?_setCell _ _ _ _).trans ((World.frozen?_setCell _ _ _ _).trans (h.fz j))
  sz := by have := h.sz; simpa [World.setCell] using this
  ex := (h.ex.setCell (Nat.le_refl _) _).setCell (Nat.le_refl _) _

/-- behind the choice: it lies in block c -/
structure V3 (w : World) (c : Nat) (ri : ByteArray) (rp : Int) (wr : World) : Prop where
  v0 : wr.cell? ⟨c, 0, none⟩ = some (.string ri)
  v1 : wr.cell? ⟨c, 1, none⟩ = some (.int .i64 rp)
  lt : c < wr.heap.size
  ex : Ext w wr
theorem V3.ext {w wr w' : World} {c : Nat} {ri : ByteArray} {rp : Int} (h : V3 w c ri rp wr) (hx : Ext wr w') : V3 w c ri rp w' :=
  ⟨(hx.cell (p := ⟨c, 0, none⟩) h.lt).trans h.v0, (hx.cell (p := ⟨c, 1, none⟩) h.lt).trans h.v1, Nat.lt_of_lt_of_le h.lt hx.size, h.ex.trans hx⟩
theorem V3.drewN {w wr : World} {c : Nat} {ri : ByteArray} {rp : Int} (h : V3 w c ri rp wr) (m : Nat) : V3 w c ri rp (wr.drewN m) := h.ext ((Ext.refl wr).drewN m)
theorem v3_start {w w1 : World} (h : Ext w w1) (ri : ByteArray) (rp : Int) : V3 w w1.heap.size ri rp (w1.alloc (.cells #[.string ri, .int .i64 rp] 45)) :=
  ⟨by simp [go_sem], by simp [go_sem], by simp, h.alloc _ _⟩
theorem no_more {I : Nat → ByteArray} {Pr : Nat → Int} {ri : ByteArray} {rp : Int} {j : Nat} (h : ∀ i, i < j → ¬ ((I i).toList = ri.toList ∧ Pr i = rp)) (hj : ¬ ((I j).toList = ri.toList ∧ Pr j = rp)) : ∀ i, i < j + 1 → ¬ ((I i).toList = ri.toList ∧ Pr i = rp) := by
  intro i hi
  by_cases e : i = j
  · subst e; exact hj
  · exact h i (by omega)

theorem zcand' (i : ByteArray) (p : Int) (s : ByteArray) (q : Int) (w : World) : Calls Try.prog 12 #[.agg #[.string i, .int .i64 p, .string s, .int .u64 q]] w fun e w' => e = .returned (.agg #[.string i, .int .i64 p, .string s, .int .u64 q]) ∧ Ext w w' := zcand i p s q w

/-- a candidate in a block of its own -/
structure Four (wr : World) (d : Nat) (i : ByteArray) (p : Int) (s : ByteArray) (q : Int) : Prop where
  f0 : wr.cell? ⟨d, 0, none⟩ = some (.string i)
  f1 : wr.cell? ⟨d, 1, none⟩ = some (.int .i64 p)
  f2 : wr.cell? ⟨d, 2, none⟩ = some (.string s)
  f3 : wr.cell? ⟨d, 3, none⟩ = some (.int .u64 q)
  lt : d < wr.heap.size
theorem Four.ext {wr w' : World} {d : Nat} {i : ByteArray} {p : Int} {s : ByteArray} {q : Int} (h : Four wr d i p s q) (hx : Ext wr w') : Four w' d i p s q :=
  ⟨(hx.cell (p := ⟨d, 0, none⟩) h.lt).trans h.f0, (hx.cell (p := ⟨d, 1, none⟩) h.lt).trans h.f1, (hx.cell (p := ⟨d, 2, none⟩) h.lt).trans h.f2, (hx.cell (p := ⟨d, 3, none⟩) h.lt).trans h.f3, Nat.lt_of_lt_of_le h.lt hx.size⟩
theorem four_start (w : World) (i : ByteArray) (p : Int) (s : ByteArray) (q : Int) : Four (w.alloc (.cells #[.string i, .int .i64 p, .string s, .int .u64 q] 32)) w.heap.size i p s q :=
  ⟨by simp [go_sem], by simp [go_sem], by simp [go_sem], by simp [go_sem], by simp⟩

theorem zprec_eq' (ai bi as' bs' : ByteArray) (ap bp aq bq : Int) (w : World) (he : (ai.toList == bi.toList) = true) :
    Calls Try.prog 13 #[.agg #[.string ai, .int .i64 ap, .string as', .int .u64 aq], .agg #[.string bi, .int .i64 bp, .string bs', .int .u64 bq]] w fun e w' => e = .returned (.bool false) ∧ Ext w w' := zprec_eq ai bi as' bs' ap bp aq bq w he
theorem zprec_yes' (ai bi as' bs' : ByteArray) (ap bp aq bq : Int) (w : World) (he : (ai.toList == bi.toList) = false) (hbt : better (ai, ap) (bi, bp)) :
    Calls Try.prog 13 #[.agg #[.string ai, .int .i64 ap, .string as', .int .u64 aq], .agg #[.string bi, .int .i64 bp, .string bs', .int .u64 bq]] w fun e w' => e = .returned (.bool true) ∧ Ext w w' := zprec_yes ai bi as' bs' ap bp aq bq w he hbt
theorem zprec_no' (ai bi as' bs' : ByteArray) (ap bp aq bq : Int) (w : World) (he : (ai.toList == bi.toList) = false) (hbt : better (bi, bp) (ai, ap)) :
    Calls Try.prog 13 #[.agg #[.string ai, .int .i64 ap, .string as', .int .u64 aq], .agg #[.string bi, .int .i64 bp, .string bs', .int .u64 bq]] w fun e w' => e = .returned (.bool false) ∧ Ext w w' := zprec_no ai bi as' bs' ap bp aq bq w he hbt

/-- the choice goes before every candidate of another transaction -/
theorem best_other {n : Nat} {I : Nat → ByteArray} {Pr : Nat → Int} {ri : ByteArray} {rp : Int} (hb : isBest n (fun i => (I i, Pr i)) (ri, rp)) {i j : Nat} (hi : i < n) (h1 : (I j).toList = ri.toList) (h2 : Pr j = rp) (hne : ¬ (I i).toList = ri.toList) : better (I j, Pr j) (I i, Pr i) := by
  have hr : better (ri, rp) (I i, Pr i) := by
    rcases better_total (a := (ri, rp)) (b := (I i, Pr i)) (fun e => hne e.symm) with h | h
    · exact h
    · exact absurd h (hb.2 i hi)
  unfold better at hr ⊢
  simp only at hr ⊢
  rw [h1, h2]
  exact hr

theorem info45 : (Try.prog.info? 45).map (fun i => (i.zero, i.size, i.bytes)) = some (some (.agg #[.string ⟨#[]⟩, .int .i64 0]), 2, 24) := by kernel_rfl
theorem make43 (n : Nat) (hn : n ≤ 65536) (w : World) : (Instr.makeSlice 43 (.int .i64 (n : Int)) (.int .i64 (n : Int))).run Try.prog w = .ok (.slice (some ⟨w.heap.size, 0, none⟩) n n) (w.alloc (.cells (madeCells #[.string ⟨#[]⟩, .int .i64 0] (n * 2)) 45)) := by
  obtain ⟨i0, hi, hz0, hz1, hz2⟩ := info_parts info45
  have := run_make (P := Try.prog) w 43 45 i0 _ Try.underlying43 hi hz0 .i64 .i64 n n (by omega) (by omega) (by rw [hz2]; omega) (by omega)
  rw [hz1] at this
  simpa [Value.cells] using this
theorem made_cells (v : World) (n i : Nat) (hi : i < n) : (v.alloc (.cells (madeCells #[.string ⟨#[]⟩, .int .i64 0] (n * 2)) 45)).cell? ⟨v.heap.size, i * 2, none⟩ = some (.string ⟨#[]⟩) ∧ (v.alloc (.cells (madeCells #[.string ⟨#[]⟩, .int .i64 0] (n * 2)) 45)).cell? ⟨v.heap.size, i * 2 + 1, none⟩ = some (.int .i64 0) := by
  have h1 : i * 2 < n * 2 := by omega
  have h2 : i * 2 + 1 < n * 2 := by omega
  have h3 : (i * 2 + 1) % 2 = 1 := by omega
  constructor
  · rw [World.cell?_alloc_at _ _ _ _ rfl]
    simp [madeCells, h1]
  · rw [World.cell?_alloc_at _ _ _ _ rfl]
    simp [madeCells, h2, h3]
theorem drewN_size (w : World) (m : Nat) : (w.drewN m).heap.size = w.heap.size := by simp
theorem mems_start (w : World) (n m : Nat) (I : Nat → ByteArray) (Pr : Nat → Int) : Mems w ((w.drewN m).alloc (.cells (madeCells #[.string ⟨#[]⟩, .int .i64 0] (n * 2)) 45)) n 0 I Pr where
  cells := fun i hi => by
    have := made_cells (w.drewN m) n i hi
    rw [drewN_size] at this
    exact ⟨_, _, this.1, this.2, fun h => absurd h (by omega)⟩
  fz := fun j => by
    rw [frozen?_alloc_cells]
    have := (Ext.refl w).drewN m
    rw [this.frozen]
    simp [World.frozen?]
  sz := by simp
  ex := ((Ext.refl w).drewN m).alloc _ _

set_option maxHeartbeats 1000000 in
theorem law_main (b off n cap : Nat) (I : Nat → ByteArray) (Pr : Nat → Int) (St : Nat → ByteArray) (Sq : Nat → Int) (w : World) (h : Cands w b off n I Pr St Sq) (hn : n ≤ 65536) (h0 : 0 < n) :
    Calls Try.prog 5 #[.slice (some ⟨b, off, none⟩) n cap] w fun e w' => e = .returned (.bool true) ∧ Ext w w' := by
  have hn' : decide ((65536 : Int) < (n : Int)) = false := decide_eq_false (by omega)
  have hz' : ((n : Int) == 0) = false := by simp; omega
  have hmk : ∀ w : World, (Instr.makeSlice 43 (.int .i64 (n : Int)) (.int .i64 (n : Int))).run Try.prog w = .ok (.slice (some ⟨w.heap.size, 0, none⟩) n n) (w.alloc (.cells (madeCells #[.string ⟨#[]⟩, .int .i64 0] (n * 2)) 45)) := make43 n hn
  go_enter Try.func5, Try.ntmps5
  go_wp2_with (go_at_call 10; refine (bytes_any b off n cap I Pr St Sq _ h ?_).mono ?_; (unfold maxLen; omega); rintro e w' ⟨⟨r, rfl⟩, hw⟩; replace hw := hw.symm; subst hw)
  · go_ret
    exact ⟨rfl, Ext.refl _⟩
  · go_loopw [3, 21] (fun z i wr => ∃ (k : Nat) (s : Int) (m : Nat), k ≤ n ∧ i = .int .i64 k ∧ z = .int .i64 s ∧ wr = w.drewN m) (fun _ i _ => n - (intOf i).toNat)
    case atStart => exact ⟨0, 0, 0, by omega, rfl, rfl, rfl⟩
    case round =>
      obtain ⟨k, s, m, hk, rfl, rfl, hw⟩ := hrel
      subst hw
      by_cases hlt : k < n
      · have hlt' : decide ((k : Int) < (n : Int)) = true := decide_eq_true (by omega)
        have q0 := h.c0 k hlt
        have q2 := h.c2 k hlt
        go_wp2_with fail
        go_quiet (fail)
        go_wp2
        · go_ret
          exact ⟨rfl, (Ext.refl w).drewN _⟩
        · go_roundw
          case rel => exact ⟨k + 1, _, _, by omega, by go_num, rfl, rfl⟩
          case measure => simp [intOf]; omega
      · have hlt' : decide ((k : Int) < (n : Int)) = false := decide_eq_false (by omega)
        go_wp2_with fail
        have hst := mems_start w n m I Pr
        go_loopw [6, 51] (fun _ i wr => ∃ k : Nat, k ≤ n ∧ i = .int .i64 k ∧ Mems w wr n k I Pr) (fun _ i _ => n - (intOf i).toNat)
        case atStart => exact ⟨0, by omega, rfl, hst⟩
        case round =>
          clear hst hmk hlt hlt' hk
          obtain ⟨j, hj, rfl, hM⟩ := hrel
          by_cases hlt : j < n
          · have hlt' : decide ((j : Int) < (n : Int)) = true := decide_eq_true (by omega)
            have hC := h.ext hM.ex
            have q0 := hC.c0 j hlt
            have q1 := hC.c1 j hlt
            obtain ⟨s0, p0, q2, q3, _⟩ := hM.cells j hlt
            have q4 := hM.fz (j * 2)
            have q5 := hM.fz (j * 2 + 1)
            clear hC
            go_wp2_with fail
            go_region
            all_goals
              go_wp2
              go_roundw
              case rel => exact ⟨j + 1, by omega, by go_num, (hM.store hlt).drew⟩
              case measure => simp [intOf]; omega
          · have hlt' : decide ((j : Int) < (n : Int)) = false := decide_eq_false (by omega)
            have ej : n = j := by omega
            subst ej
            go_wp2_with fail
            refine (victim_any w.heap.size 0 n n (fun i => (I i, Pr i)) _ hM.sz h0 (Nat.le_refl _) (by omega) ?_).mono ?_
            · intro i hi
              exact hM.full i hi
            rintro e w1 ⟨ri, rp, rfl, hbest, hx⟩
            have hE := hM.ex.trans hx
            clear hM hx hlt hlt' hj
            go_wp2_with fail
            have hst := v3_start hE ri rp
            go_loopw [8, 73] (fun c i wr => ∃ j : Nat, j ≤ n ∧ i = .int .i64 j ∧ c = .int .i64 (-1) ∧ (∀ i, i < j → ¬ ((I i).toList = ri.toList ∧ Pr i = rp)) ∧ V3 w w1.heap.size ri rp wr) (fun _ i _ => n - (intOf i).toNat)
            case atStart => exact ⟨0, by omega, rfl, rfl, fun i hi => absurd hi (by omega), hst⟩
            case round =>
              clear hst hE
              obtain ⟨j, hj, rfl, rfl, hno, hV⟩ := hrel
              by_cases hlt : j < n
              · have hlt' : decide ((j : Int) < (n : Int)) = true := decide_eq_true (by omega)
                have hC := h.ext hV.ex
                have q0 := hC.c0 j hlt
                have q1 := hC.c1 j hlt
                have q2 := hV.v0
                have q3 := hV.v1
                by_cases hi : (I j).toList = ri.toList
                · have hi' : ((I j).toList == ri.toList) = true := by simpa using hi
                  by_cases hp : Pr j = rp
                  · have hp' : (Pr j == rp) = true := by simpa using hp
                    have HI : Hid ((I j).toList = ri.toList) := hi
                    have HP : Hid (Pr j = rp) := hp
                    have q4 := hC.c2 j hlt
                    have q5 := hC.c3 j hlt
                    clear hi hp hno
                    go_wp2_with fail
                    go_quiet (fail)
                    go_wp2_with fail
                    refine (zcand' (I j) (Pr j) (St j) (Sq j) _).mono ?_
                    rintro e w2 ⟨rfl, hx⟩
                    have hV2 := (hV.drewN nq).ext hx
                    clear hx hV hC q0 q1 q2 q3 q4 q5
                    have hj0 : decide ((j : Int) < 0) = false := decide_eq_false (by omega)
                    go_wp2_with fail
                    have hst := four_start w2 (I j) (Pr j) (St j) (Sq j)
                    have hV3 := hV2.ext ((Ext.refl w2).alloc #[.string (I j), .int .i64 (Pr j), .string (St j), .int .u64 (Sq j)] 32)
                    clear hV2
                    go_loopw [105] (fun t wr => ∃ i : Nat, i ≤ n ∧ t = .int .i64 i ∧ V3 w w1.heap.size ri rp wr ∧ Four wr w2.heap.size (I j) (Pr j) (St j) (Sq j)) (fun t _ => n - (intOf t).toNat)
                    case atStart => exact ⟨0, by omega, rfl, hV3, hst⟩
                    case round =>
                      clear hst hV3
                      obtain ⟨i, hi, rfl, hV, hF⟩ := hrel
                      by_cases hlt2 : i < n
                      · have hlt2' : decide ((i : Int) < (n : Int)) = true := decide_eq_true (by omega)
                        have hC := h.ext hV.ex
                        have q0 := hC.c0 i hlt2
                        have q1 := hC.c1 i hlt2
                        have q2 := hC.c2 i hlt2
                        have q3 := hC.c3 i hlt2
                        go_wp2_with fail
                        refine (zcand' (I i) (Pr i) (St i) (Sq i) _).mono ?_
                        rintro e w3 ⟨rfl, hx⟩
                        have hx3 := hx.alloc #[.string (I i), .int .i64 (Pr i), .string (St i), .int .u64 (Sq i)] 32
                        have hV3 := hV.ext hx
                        have hF3 := hF.ext hx
                        have hG4 := four_start w3 (I i) (Pr i) (St i) (Sq i)
                        have hV4 := hV.ext hx3
                        have hF4 := hF.ext hx3
                        have p0 := (hC.ext hx).c0 i hlt2
                        have p1 := hV3.v0
                        have z0 := (hC.ext hx).lt
                        have z1 := hV3.lt
                        obtain ⟨m0, m1, m2, m3, z2⟩ := hF3
                        clear q0 q1 q2 q3 hx hV hF hC hx3 hV3
                        by_cases he : (I i).toList = ri.toList
                        · have he' : ((I i).toList == ri.toList) = true := by simpa using he
                          have hji : ((I j).toList == (I i).toList) = true := by rw [HI.out, he]; simp
                          have hij : ((I i).toList == (I j).toList) = true := by rw [HI.out, he]; simp
                          clear he
                          go_wp2_with fail
                          go_quiet (fail)
                          go_wp2_with fail
                          refine (zprec_eq' (I j) (I i) (St j) (St i) (Pr j) (Pr i) (Sq j) (Sq i) _ hji).mono ?_
                          rintro e w4 ⟨rfl, hx4⟩
                          have hx5 := ((Ext.refl _).drewN nq).trans hx4
                          have hV5 := hV4.ext hx5
                          have hF5 := hF4.ext hx5
                          obtain ⟨a0, a1, a2, a3, z3⟩ := hG4.ext hx5
                          obtain ⟨b0, b1, b2, b3, z4⟩ := hF5
                          clear hx4 hx5 hG4 hV4 hF4 m0 m1 m2 m3 z0 z1 z2 p0 p1
                          go_wp2_with fail
                          refine (zprec_eq' (I i) (I j) (St i) (St j) (Pr i) (Pr j) (Sq i) (Sq j) _ hij).mono ?_
                          rintro e w5 ⟨rfl, hx6⟩
                          have hV6 := hV5.ext hx6
                          have hF6 := Four.ext ⟨b0, b1, b2, b3, z4⟩ hx6
                          go_wp2_with fail
                          go_roundw
                          case rel => exact ⟨i + 1, by omega, by go_num, hV6, hF6⟩
                          case measure => simp [intOf]; omega
                        · have he' : ((I i).toList == ri.toList) = false := by simpa using he
                          have hji : ((I j).toList == (I i).toList) = false := by rw [HI.out]; simpa using fun e => he e.symm
                          have hij : ((I i).toList == (I j).toList) = false := by rw [HI.out]; simpa using he
                          have hbt := best_other hbest hlt2 HI.out HP.out he
                          clear he
                          go_wp2_with fail
                          go_quiet (fail)
                          go_wp2_with fail
                          refine (zprec_yes' (I j) (I i) (St j) (St i) (Pr j) (Pr i) (Sq j) (Sq i) _ hji hbt).mono ?_
                          rintro e w4 ⟨rfl, hx4⟩
                          have hx5 := ((Ext.refl _).drewN nq).trans hx4
                          have hV5 := hV4.ext hx5
                          have hF5 := hF4.ext hx5
                          obtain ⟨a0, a1, a2, a3, z3⟩ := hG4.ext hx5
                          obtain ⟨b0, b1, b2, b3, z4⟩ := hF5
                          clear hx4 hx5 hG4 hV4 hF4 m0 m1 m2 m3 z0 z1 z2 p0 p1
                          go_wp2_with fail
                          refine (zprec_no' (I i) (I j) (St i) (St j) (Pr i) (Pr j) (Sq i) (Sq j) _ hij hbt).mono ?_
                          rintro e w5 ⟨rfl, hx6⟩
                          have hV6 := hV5.ext hx6
                          have hF6 := Four.ext ⟨b0, b1, b2, b3, z4⟩ hx6
                          go_wp2_with fail
                          go_roundw
                          case rel => exact ⟨i + 1, by omega, by go_num, hV6, hF6⟩
                          case measure => simp [intOf]; omega
                      · have hlt2' : decide ((i : Int) < (n : Int)) = false := decide_eq_false (by omega)
                        go_wp2_with fail
                        go_ret
                        exact ⟨rfl, hV.ex⟩
                  · have hp' : (Pr j == rp) = false := by simpa using hp
                    have HN : Hid (∀ i, i < j → ¬ ((I i).toList = ri.toList ∧ Pr i = rp)) := hno
                    have HP : Hid (¬ Pr j = rp) := hp
                    clear hno hp hi
                    go_wp2_with fail
                    go_quiet (fail)
                    go_wp2_with fail
                    go_roundw
                    case rel => exact ⟨j + 1, by omega, by go_num, rfl, no_more HN.out (fun e => HP.out e.2), hV.drewN _⟩
                    case measure => simp [intOf]; omega
                · have hi' : ((I j).toList == ri.toList) = false := by simpa using hi
                  have HN : Hid (∀ i, i < j → ¬ ((I i).toList = ri.toList ∧ Pr i = rp)) := hno
                  have HI : Hid (¬ (I j).toList = ri.toList) := hi
                  clear hno hi
                  go_wp2_with fail
                  go_quiet (fail)
                  go_wp2_with fail
                  go_roundw
                  case rel => exact ⟨j + 1, by omega, by go_num, rfl, no_more HN.out (fun e => HI.out e.1), hV.drewN _⟩
                  case measure => simp [intOf]; omega
              · exfalso
                obtain ⟨⟨i, hi, e⟩, _⟩ := hbest
                simp at e
                exact hno i (by omega) ⟨by rw [e.1], e.2⟩

end Go.Proofs.Qxb6614652a.Victim
