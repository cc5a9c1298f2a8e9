import Derived.Test.Qxb6605595aEscB
import Derived.Test.Qxb6605595aPlain
import Derived.Deep.DeepAppendRoom
import Derived.Laws.MakeOwn
import Derived.Laws.IdiomStrings
import Derived.LoopTactic
namespace Go.Proofs.Qxb6605595a.Law
open Go.ChangeShapes Go.WideShapes Go.ChangeAt Go.RowKit Esc Plain
set_option linter.unusedVariables false

theorem bytes_any (a0 : ByteArray) (a1 : Bool) (w : World) (h : a0.size ≤ maxLen) : Calls Try.prog 4 #[.string a0, .bool a1] w fun e w' => (∃ b, e = .returned (.bool b)) ∧ w' = w := by
  unfold maxLen at h
  by_cases hs : a0.size ≤ 1048576
  · go_enter Try.func4, Try.ntmps4
    go_wp2
    go_ret
    exact ⟨⟨_, rfl⟩, rfl⟩
  · go_enter Try.func4, Try.ntmps4
    go_wp2
    go_ret
    exact ⟨⟨_, rfl⟩, rfl⟩

theorem bytes_true (a0 : ByteArray) (a1 : Bool) (w : World) (hs : a0.size ≤ 65536) : Calls Try.prog 4 #[.string a0, .bool a1] w fun e w' => e = .returned (.bool true) ∧ w' = w := by
  go_enter Try.func4, Try.ntmps4
  go_wp2
  go_ret
  exact ⟨rfl, rfl⟩

theorem law_long (a0 : ByteArray) (a1 : Bool) (w : World) (h : a0.size ≤ maxLen) (hn : ¬ a0.size ≤ 65536) :
    Calls Try.prog 3 #[.string a0, .bool a1] w fun e w' => e = .returned (.bool true) ∧ Below w.heap.size w w' := by
  have hn' : decide ((65536 : Int) < (a0.size : Int)) = true := decide_eq_true (by omega)
  go_enter Try.func3, Try.ntmps3
  go_wp2_with (go_at_call 4; refine (bytes_any _ _ _ h).mono ?_; rintro e w' ⟨⟨r, rfl⟩, hw⟩; replace hw := hw.symm; subst hw)
  all_goals
    go_ret
    exact ⟨rfl, Below.refl _ _⟩

theorem info5 : (Try.prog.info? 5).map (fun i => (i.zero, i.size, i.bytes)) = some (some (.int .u8 0), 1, 1) := by kernel_rfl
theorem make23 (n : Nat) (hn : n ≤ 1048576) (w : World) : (Instr.makeSlice 23 (.int .i64 0) (.int .i64 (n : Int))).run Try.prog w = .ok (.slice (some ⟨w.heap.size, 0, none⟩) 0 n) (w.alloc (.cells (madeCells #[.int .u8 0] n) 5)) := by
  obtain ⟨i0, hi, hz0, hz1, hz2⟩ := info_parts info5
  have := run_make (P := Try.prog) w 23 5 i0 _ Try.underlying23 hi hz0 .i64 .i64 0 n (by omega) (by omega) (by rw [hz2]; omega) (by omega)
  rw [hz1] at this
  simpa [Value.cells] using this

/-- bytes as cells -/
def vals (l : List UInt8) : List Value := l.map fun b => .int .u8 (b.toNat : Int)

/-- an owned row of bytes: the slice v at block g, its bytes L -/
def Own8 (B g cap : Nat) (wr : World) (L : List UInt8) (v : Value) : Prop :=
  v = .slice (some ⟨g, 0, none⟩) L.length cap ∧ wr.ownsRow B 5 1 (.slice (some ⟨g, 0, none⟩) L.length cap) L.length (vals L)

theorem own_start (w : World) (B cap : Nat) (hB : B ≤ w.heap.size) (hc : cap ≤ 1048576) : Own8 B w.heap.size cap (w.alloc (.cells (madeCells #[.int .u8 0] cap) 5)) [] (.slice (some ⟨w.heap.size, 0, none⟩) 0 cap) :=
  ⟨rfl, World.ownsRow_made w _ _ hB (by unfold maxLen; omega) (by rw [size_madeCells, Nat.mul_one])⟩

theorem one8 (x : Int) : ∀ u ∈ [Value.int .u8 x], u.oneCell' = true := by
  intro u hu
  simp at hu
  subst hu
  rfl

theorem own_push {B g cap : Nat} {w1 : World} {L : List UInt8} {c : UInt8} (h : w1.ownsRow B 5 1 (.slice (some ⟨g, 0, none⟩) (L.length + 1) cap) (L.length + 1) (vals L ++ [.int .u8 (c.toNat : Int)])) :
    w1.ownsRow B 5 1 (.slice (some ⟨g, 0, none⟩) (L ++ [c]).length cap) (L ++ [c]).length (vals (L ++ [c])) := by
  simpa [vals] using h

theorem own_push1 {B g cap : Nat} {w1 : World} {L : List UInt8} {c : UInt8} (h : w1.ownsRow B 5 1 (.slice (some ⟨g, 0, none⟩) (L.length + 1) cap) (L.length + 1) (vals L ++ [.int .u8 (c.toNat : Int)])) :
    Own8 B g cap w1 (L ++ [c]) (.slice (some ⟨g, 0, none⟩) (L.length + 1) cap) := ⟨by simp, own_push h⟩
theorem own_push2 {B g cap : Nat} {w1 : World} {L : List UInt8} {c : UInt8} (h : w1.ownsRow B 5 1 (.slice (some ⟨g, 0, none⟩) (L.length + 1 + 1) cap) (L.length + 1 + 1) (vals L ++ [.int .u8 (c.toNat : Int)] ++ [.int .u8 (c.toNat : Int)])) :
    Own8 B g cap w1 (L ++ [c] ++ [c]) (.slice (some ⟨g, 0, none⟩) (L.length + 1 + 1) cap) := ⟨by simp, by simpa [vals] using h⟩
theorem below_push {B g : Nat} {w wr w1 : World} {o : Obj} (h : Below B w wr) (hB : B ≤ wr.heap.size) (hg : (wr.alloc o).grownBy w1 (some g)) (hgB : B ≤ g) : Below B w w1 ∧ B ≤ w1.heap.size := by
  have h1 := h.alloc hB o
  have h2 : B ≤ (wr.alloc o).heap.size := by simp; omega
  exact ⟨h1.grown hg h2 (fun k hk => by cases hk; exact hgB), Nat.le_trans h2 hg.size⟩
theorem get_l {a0 : ByteArray} {l : List UInt8} (hl : l = a0.data.toList) {k : Nat} (hk : k < a0.size) : l[k]? = some (a0[k]'hk) := by
  subst hl
  have : k < a0.data.toList.length := by simpa using hk
  rw [List.getElem?_eq_getElem this]
  rfl
theorem step_yes {all : Bool} {l L : List UInt8} {k : Nat} {c : UInt8} (hL : L = dbl all (l.take k)) (hc : l[k]? = some c) (he : esc all c = true) : L ++ [c] ++ [c] = dbl all (l.take (k + 1)) := by
  rw [take_snoc l k c hc, dbl_snoc_yes he, hL]
theorem step_no {all : Bool} {l L : List UInt8} {k : Nat} {c : UInt8} (hL : L = dbl all (l.take k)) (hc : l[k]? = some c) (he : esc all c = false) : L ++ [c] = dbl all (l.take (k + 1)) := by
  rw [take_snoc l k c hc, dbl_snoc_no he, hL]

theorem ne_byte {x y : UInt8} (h : ¬ x = y) : ((x.toNat : Int) == (y.toNat : Int)) = false := by
  rw [beq_eq_false_iff_ne]
  intro e
  exact h (UInt8.toNat_inj.1 (by omega))

/-- 'string(b)' of an owned row of bytes -/
theorem conv_own {B g cap : Nat} {wr : World} {L : List UInt8} (h : wr.ownsRow B 5 1 (.slice (some ⟨g, 0, none⟩) L.length cap) L.length (vals L)) :
    (convert 23 9 (.slice (some ⟨g, 0, none⟩) L.length cap)).run Try.prog wr = .ok (.string ⟨L.toArray⟩) wr := by
  refine run_convert_bytes_back wr 23 9 5 ⟨g, 0, none⟩ cap L Try.underlying23 Try.underlying5 Try.underlying9 ?_
  intro j hj
  exact h.cells (g := g) rfl j _ (by simp [vals, hj])

theorem heap_drewN (w : World) (m : Nat) : (w.drewN m).heap = w.heap := by
  induction m with
  | zero => rfl
  | succ m ih => exact ih
theorem own_drewN {B g cap : Nat} {wr : World} {L : List UInt8} (h : wr.ownsRow B 5 1 (.slice (some ⟨g, 0, none⟩) L.length cap) L.length (vals L)) (m : Nat) : (wr.drewN m).ownsRow B 5 1 (.slice (some ⟨g, 0, none⟩) L.length cap) L.length (vals L) := by
  unfold World.ownsRow at h ⊢
  rw [heap_drewN]
  exact h
theorem below_drewN {B : Nat} {w wr : World} (h : Below B w wr) (m : Nat) : Below B w (wr.drewN m) := by
  induction m with
  | zero => exact h
  | succ m ih => exact ih.drew
/-- behind a parser made and a look at it -/
theorem after_look {B g cap m : Nat} {w wr w2 : World} {L : List UInt8} {o : Obj} (hw2 : w2 = (wr.alloc o).drewN m) (h : wr.ownsRow B 5 1 (.slice (some ⟨g, 0, none⟩) L.length cap) L.length (vals L)) (hb : Below B w wr) (hB : B ≤ wr.heap.size) :
    w2.ownsRow B 5 1 (.slice (some ⟨g, 0, none⟩) L.length cap) L.length (vals L) ∧ Below B w w2 ∧ B ≤ w2.heap.size := by
  subst hw2
  refine ⟨own_drewN (h.alloc o) m, below_drewN (hb.alloc hB o) m, ?_⟩
  rw [heap_drewN]
  have : (wr.alloc o).heap.size = wr.heap.size + 1 := by simp
  omega

theorem look_facts {all : Bool} {a0 s : ByteArray} {l : List UInt8} {j p : Nat} (hS : s.data.toList = dbl all l) (hp : p = (dbl all (l.take j)).length) (hl : l = a0.data.toList) (hj : j < a0.size) :
    j ≤ p ∧ p < s.size ∧ (esc all (a0[j]'hj) = true → p + 1 < s.size ∧ s.data.toList.drop p = (a0[j]'hj) :: (a0[j]'hj) :: dbl all (l.drop (j + 1))) ∧ (esc all (a0[j]'hj) = false → s.data.toList.drop p = (a0[j]'hj) :: dbl all (l.drop (j + 1))) := by
  have hg := get_l hl hj
  have hlen : s.size = (dbl all l).length := by rw [← hS]; simp
  have hll : l.length = a0.size := by rw [hl]; simp
  have h1 := pos_lt (all := all) (l := l) (j := j) (by omega)
  have h2 := (dbl_length all (l.take j)).1
  rw [List.length_take] at h2
  refine ⟨by omega, by omega, fun he => ?_, fun he => ?_⟩
  · have e := rest_yes hg he
    rw [hS, hp]
    refine ⟨?_, e⟩
    have := congrArg List.length e
    rw [List.length_drop] at this
    simp at this
    omega
  · rw [hS, hp]
    exact rest_no hg he
theorem end_facts {all : Bool} {a0 s : ByteArray} {l : List UInt8} {j p : Nat} (hS : s.data.toList = dbl all l) (hp : p = (dbl all (l.take j)).length) (hl : l = a0.data.toList) (hj : ¬ j < a0.size) : p = s.size := by
  have hlen : s.size = (dbl all l).length := by rw [← hS]; simp
  have hll : l.length = a0.size := by rw [hl]; simp
  rw [hp, hlen]
  exact pos_end (by omega)
theorem byte_of_drop {s : ByteArray} {p : Nat} {c : UInt8} {r : List UInt8} (hp : p < s.size) (h : s.data.toList.drop p = c :: r) : s[p]'hp = c := by
  have h1 := get_of_drop h
  have h2 := get_l (a0 := s) rfl hp
  rw [h1] at h2
  exact (Option.some.inj h2).symm

theorem drop_succ {t : List UInt8} {p : Nat} {a : UInt8} {r : List UInt8} (h : t.drop p = a :: r) : t.drop (p + 1) = r := by
  rw [← List.drop_drop, h]; rfl
theorem new_cells (s : ByteArray) (p : Int) (wr : World) : (wr.alloc (.cells #[.string s, .int .i64 p, .int .i64 1, .int .i64 0, .int .i64 0] 28)).cell? ⟨wr.heap.size, 0, none⟩ = some (.string s) ∧ (wr.alloc (.cells #[.string s, .int .i64 p, .int .i64 1, .int .i64 0, .int .i64 0] 28)).cell? ⟨wr.heap.size, 1, none⟩ = some (.int .i64 p) :=
  ⟨by simp [go_sem], by simp [go_sem]⟩
theorem look_yes (all : Bool) (s : ByteArray) (p : Nat) (x : Int) (wr : World) (c : UInt8) (r : List UInt8) (hx : x = if all = true then 2 else 1) (hs : s.size ≤ 131072) (hd : s.data.toList.drop p = c :: c :: r) (he : esc all c = true) :
    Calls Try.prog 6 #[.pointer (some ⟨wr.heap.size, 0, none⟩), .int .i64 x] (wr.alloc (.cells #[.string s, .int .i64 p, .int .i64 1, .int .i64 0, .int .i64 0] 28)) fun e w' => e = .returned (.bool true) ∧ ∃ m, w' = (wr.alloc (.cells #[.string s, .int .i64 p, .int .i64 1, .int .i64 0, .int .i64 0] 28)).drewN m :=
  esc_yes all wr.heap.size s p x _ c r (new_cells s p wr).1 (new_cells s p wr).2 hx (by omega) hd he
theorem look_no (all : Bool) (s : ByteArray) (p : Nat) (x : Int) (wr : World) (c : UInt8) (r : List UInt8) (hx : x = if all = true then 2 else 1) (hs : s.size ≤ 131072) (hd : s.data.toList.drop p = c :: r) (he : esc all c = false) :
    Calls Try.prog 6 #[.pointer (some ⟨wr.heap.size, 0, none⟩), .int .i64 x] (wr.alloc (.cells #[.string s, .int .i64 p, .int .i64 1, .int .i64 0, .int .i64 0] 28)) fun e w' => e = .returned (.bool false) ∧ ∃ m, w' = (wr.alloc (.cells #[.string s, .int .i64 p, .int .i64 1, .int .i64 0, .int .i64 0] 28)).drewN m :=
  esc_no all wr.heap.size s p x _ c r (new_cells s p wr).1 (new_cells s p wr).2 hx (by omega) hd he

theorem back {a0 : ByteArray} {l M : List UInt8} {j : Nat} (hM : M = l.take j) (hl : l = a0.data.toList) (hj : ¬ j < a0.size) : (⟨M.toArray⟩ : ByteArray) = a0 := by
  have hll : l.length = a0.size := by rw [hl]; simp
  rw [hM, List.take_of_length_le (by omega), hl]

set_option maxHeartbeats 1000000 in
theorem law_true (a0 : ByteArray) (w : World) (hn : a0.size ≤ 65536) (l : List UInt8) (hl : l = a0.data.toList) (hll : l.length = a0.size) :
    Calls Try.prog 3 #[.string a0, .bool true] w fun e w' => e = .returned (.bool true) ∧ Below w.heap.size w w' := by
  have hn' : decide ((65536 : Int) < (a0.size : Int)) = false := decide_eq_false (by omega)
  have hmk := fun (w : World) => make23 (2 * a0.size) (by omega) w
  simp only [Int.natCast_mul, Int.cast_ofNat_Int] at hmk
  have HL : Hid (l = a0.data.toList) := hl
  have HLL : Hid (l.length = a0.size) := hll
  have hst := own_start w w.heap.size (2 * a0.size) (Nat.le_refl _) (by omega)
  obtain ⟨i0, hi, hz0, hz1, hz2⟩ := info_parts info5
  clear hl hll hz0 hz2
  go_enter Try.func3, Try.ntmps3
  go_wp2_with (go_at_call 4; refine (bytes_true _ _ _ hn).mono ?_; rintro e w' ⟨rfl, hw⟩; replace hw := hw.symm; subst hw)
  · go_loopw [6, 7] (fun v i wr => ∃ (k : Nat) (L : List UInt8), k ≤ a0.size ∧ i = .int .i64 k ∧ L.length ≤ 2 * k ∧ Hid (L = dbl true (l.take k)) ∧ Own8 w.heap.size w.heap.size (2 * a0.size) wr L v ∧ Below w.heap.size w wr ∧ w.heap.size ≤ wr.heap.size) (fun _ i _ => a0.size - (intOf i).toNat)
    case atStart => exact ⟨0, [], by omega, rfl, by simp, rfl, hst, (Below.refl _ _).alloc (Nat.le_refl _) _, by simp⟩
    case round =>
      clear hst hmk
      obtain ⟨k, L, hk, rfl, hL2, HD, ⟨rfl, hown⟩, hbel, hwB⟩ := hrel
      by_cases hlt : k < a0.size
      · have hlt' : decide ((k : Int) < (a0.size : Int)) = true := decide_eq_true (by omega)
        have HG : Hid (l[k]? = some (a0[k]'hlt)) := get_l HL.out hlt
        by_cases h36 : (a0[k]'hlt) = 36
        · have hb1 : (((a0[k]'hlt).toNat : Int) == 36) = true := by simp [h36]
          have he0 : esc true (a0[k]'hlt) = true := by simp [esc, h36]
          have HE : Hid (esc true (a0[k]'hlt) = true) := he0
          clear he0
          clear h36; go_wp2_with (first | (at_builtin; refine wpList_append_own_spare _ rfl (.tmp 43) (.tmp 45) 23 rfl w.heap.size 5 i0 1 Try.underlying23 hi hz1 w.heap.size L.length (2 * a0.size) _ rfl (hown.alloc _) ⟨wr.heap.size, 0, none⟩ 1 1 [.int .u8 ((a0[k]'hlt).toNat : Int)] rfl rfl (cell_one_new _ _ _) (one8 _) ?_ ?_; (omega); intro w1 hown1 hgrow1) | (at_builtin; refine wpList_append_own_spare _ rfl (.tmp 47) (.tmp 49) 23 rfl w.heap.size 5 i0 1 Try.underlying23 hi hz1 w.heap.size (L.length + 1) (2 * a0.size) _ rfl (hown1.alloc _) ⟨w1.heap.size, 0, none⟩ 1 1 [.int .u8 ((a0[k]'hlt).toNat : Int)] rfl rfl (cell_one_new _ _ _) (one8 _) ?_ ?_; (omega); intro w2 hown2 hgrow2))
          obtain ⟨B1, B2⟩ := below_push hbel hwB hgrow1 (Nat.le_refl _)
          obtain ⟨B3, B4⟩ := below_push B1 B2 hgrow2 (Nat.le_refl _)
          go_roundw
          case rel => first | exact ⟨k + 1, _, by omega, by go_num, by simp; omega, step_yes HD.out HG.out HE.out, own_push2 hown2, B3, B4⟩ | ((repeat apply Exists.intro); exact ⟨⟨k + 1, _, by omega, by go_num, by simp; omega, step_yes HD.out HG.out HE.out, own_push2 hown2, B3, B4⟩, rfl⟩)
          case measure => simp [intOf]; omega
        · by_cases h92 : (a0[k]'hlt) = 92
          · have hb1 : (((a0[k]'hlt).toNat : Int) == 36) = false := ne_byte h36
            have hb2 : (((a0[k]'hlt).toNat : Int) == 92) = true := by simp [h92]
            have he0 : esc true (a0[k]'hlt) = true := by simp [esc, h92]
            have HE : Hid (esc true (a0[k]'hlt) = true) := he0
            clear he0
            clear h36 h92; go_wp2_with (first | (at_builtin; refine wpList_append_own_spare _ rfl (.tmp 43) (.tmp 45) 23 rfl w.heap.size 5 i0 1 Try.underlying23 hi hz1 w.heap.size L.length (2 * a0.size) _ rfl (hown.alloc _) ⟨wr.heap.size, 0, none⟩ 1 1 [.int .u8 ((a0[k]'hlt).toNat : Int)] rfl rfl (cell_one_new _ _ _) (one8 _) ?_ ?_; (omega); intro w1 hown1 hgrow1) | (at_builtin; refine wpList_append_own_spare _ rfl (.tmp 47) (.tmp 49) 23 rfl w.heap.size 5 i0 1 Try.underlying23 hi hz1 w.heap.size (L.length + 1) (2 * a0.size) _ rfl (hown1.alloc _) ⟨w1.heap.size, 0, none⟩ 1 1 [.int .u8 ((a0[k]'hlt).toNat : Int)] rfl rfl (cell_one_new _ _ _) (one8 _) ?_ ?_; (omega); intro w2 hown2 hgrow2))
            obtain ⟨B1, B2⟩ := below_push hbel hwB hgrow1 (Nat.le_refl _)
            obtain ⟨B3, B4⟩ := below_push B1 B2 hgrow2 (Nat.le_refl _)
            go_roundw
            case rel => first | exact ⟨k + 1, _, by omega, by go_num, by simp; omega, step_yes HD.out HG.out HE.out, own_push2 hown2, B3, B4⟩ | ((repeat apply Exists.intro); exact ⟨⟨k + 1, _, by omega, by go_num, by simp; omega, step_yes HD.out HG.out HE.out, own_push2 hown2, B3, B4⟩, rfl⟩)
            case measure => simp [intOf]; omega
          · have hb1 : (((a0[k]'hlt).toNat : Int) == 36) = false := ne_byte h36
            have hb2 : (((a0[k]'hlt).toNat : Int) == 92) = false := ne_byte h92
            have he0 : esc true (a0[k]'hlt) = false := by simp [esc, h36, h92]
            have HE : Hid (esc true (a0[k]'hlt) = false) := he0
            clear he0
            clear h36 h92; go_wp2_with (first | (at_builtin; refine wpList_append_own_spare _ rfl (.tmp 47) (.tmp 49) 23 rfl w.heap.size 5 i0 1 Try.underlying23 hi hz1 w.heap.size L.length (2 * a0.size) _ rfl (hown.alloc _) ⟨wr.heap.size, 0, none⟩ 1 1 [.int .u8 ((a0[k]'hlt).toNat : Int)] rfl rfl (cell_one_new _ _ _) (one8 _) ?_ ?_; (omega); intro w2 hown2 hgrow2))
            obtain ⟨B3, B4⟩ := below_push hbel hwB hgrow2 (Nat.le_refl _)
            go_roundw
            case rel => first | exact ⟨k + 1, _, by omega, by go_num, by simp; omega, step_no HD.out HG.out HE.out, own_push1 hown2, B3, B4⟩ | ((repeat apply Exists.intro); exact ⟨⟨k + 1, _, by omega, by go_num, by simp; omega, step_no HD.out HG.out HE.out, own_push1 hown2, B3, B4⟩, rfl⟩)
            case measure => simp [intOf]; omega
      · have hlt' : decide ((k : Int) < (a0.size : Int)) = false := decide_eq_false (by omega)
        have hLf : L = dbl true l := by
          have := HD.out
          rw [List.take_of_length_le (by have := HLL.out; omega)] at this
          exact this
        have hcv := conv_own hown
        obtain ⟨s, hs⟩ : ∃ s : ByteArray, s = ⟨L.toArray⟩ := ⟨_, rfl⟩
        rw [← hs] at hcv
        have hS0 : s.data.toList = dbl true l := by rw [hs, ← hLf]
        have HS : Hid (s.data.toList = dbl true l) := hS0
        have hss : s.size ≤ 131072 := by
          have : s.size = L.length := by rw [hs]; rfl
          omega
        have hmk2 := fun (w : World) => make23 s.size (by omega) w
        have hst2 := own_start wr w.heap.size s.size hwB (by omega)
        have hbel2 := hbel.alloc hwB (.cells (madeCells #[.int .u8 0] s.size) 5)
        have hwB2 : w.heap.size ≤ (wr.alloc (.cells (madeCells #[.int .u8 0] s.size) 5)).heap.size := by simp; omega
        clear hs hLf hS0
        go_wp2_with fail
        clear hcv hmk2 hown
        go_loopw [10, 11] (fun v t wx => ∃ (j p : Nat) (M : List UInt8), j ≤ a0.size ∧ t = .int .i64 p ∧ p ≤ s.size ∧ M.length ≤ j ∧ Hid (p = (dbl true (l.take j)).length ∧ M = l.take j) ∧ Own8 w.heap.size wr.heap.size s.size wx M v ∧ Below w.heap.size w wx ∧ w.heap.size ≤ wx.heap.size) (fun _ t _ => s.size - (intOf t).toNat)
        case atStart => exact ⟨0, 0, [], by omega, rfl, by omega, by simp, ⟨by simp [dbl], by simp⟩, hst2, hbel2, hwB2⟩
        case round =>
          clear hst2 hbel2 hwB2 hbel hk hlt hlt' HD hL2
          obtain ⟨j, p, M, hj, rfl, hps, hMj, HP, ⟨rfl, hown⟩, hbel, hwB2⟩ := hrel
          have hfacts := look_facts HS.out HP.out.1 HL.out
          by_cases hlt : j < a0.size
          · obtain ⟨hjp, hplt, hyes, hno⟩ := hfacts hlt
            have hlt' : decide ((p : Int) < (s.size : Int)) = true := decide_eq_true (by omega)
            have hroom : M.length + 1 ≤ s.size := by omega
            have HG : Hid (l[j]? = some (a0[j]'hlt)) := get_l HL.out hlt
            cases he : esc true (a0[j]'hlt)
            · have hd := hno he
              have hb := byte_of_drop hplt hd
              have HB : Hid ((s[p]'hplt) = (a0[j]'hlt)) := hb
              have HN : Hid (Calls Try.prog 6 #[.pointer (some ⟨wr.heap.size, 0, none⟩), .int .i64 2] (wr.alloc (.cells #[.string s, .int .i64 p, .int .i64 1, .int .i64 0, .int .i64 0] 28)) fun e w' => e = .returned (.bool false) ∧ ∃ m, w' = (wr.alloc (.cells #[.string s, .int .i64 p, .int .i64 1, .int .i64 0, .int .i64 0] 28)).drewN m) := look_no true s p 2 wr _ _ rfl hss hd he
              have HE : Hid (esc true (a0[j]'hlt) = false) := he
              clear hd hb hno hyes he hfacts
              go_wp2_with (first | (go_at_call 5; refine (new_any _ _ _ _ _ _).mono ?_; rintro e w1 ⟨rfl, hw1⟩; subst hw1) | (go_at_call 6; refine HN.out.mono ?_; rintro e w2 ⟨rfl, m, hw2⟩; obtain ⟨o2, b2, B2⟩ := after_look hw2 hown hbel hwB2; clear hw2) | (at_builtin; refine wpList_append_own_spare _ rfl (.tmp 82) (.tmp 86) 23 rfl w.heap.size 5 i0 1 Try.underlying23 hi hz1 _ M.length s.size _ rfl (o2.alloc _) ⟨w2.heap.size, 0, none⟩ 1 1 [.int .u8 ((s[p]'hplt).toNat : Int)] rfl rfl (cell_one_new _ _ _) (one8 _) ?_ ?_; (omega); intro w3 hown3 hgrow3))
              obtain ⟨B3, B4⟩ := below_push b2 B2 hgrow3 hwB
              go_roundw
              case rel => exact ⟨j + 1, p + 1, M ++ [s[p]'hplt], by omega, by go_num, by omega, by simp; omega, ⟨by rw [pos_no HG.out HE.out, ← HP.out.1], by rw [HB.out, take_snoc l j _ HG.out, ← HP.out.2]⟩, own_push1 hown3, B3, B4⟩
              case measure => simp [intOf]; omega
            · obtain ⟨hp1, hd⟩ := hyes he
              have hlt1 : decide ((p : Int) + 1 < (s.size : Int)) = true := decide_eq_true (by omega)
              have hb := byte_of_drop hp1 (drop_succ hd)
              have HB : Hid ((s[p + 1]'hp1) = (a0[j]'hlt)) := hb
              have HN : Hid (Calls Try.prog 6 #[.pointer (some ⟨wr.heap.size, 0, none⟩), .int .i64 2] (wr.alloc (.cells #[.string s, .int .i64 p, .int .i64 1, .int .i64 0, .int .i64 0] 28)) fun e w' => e = .returned (.bool true) ∧ ∃ m, w' = (wr.alloc (.cells #[.string s, .int .i64 p, .int .i64 1, .int .i64 0, .int .i64 0] 28)).drewN m) := look_yes true s p 2 wr _ _ rfl hss hd he
              have HE : Hid (esc true (a0[j]'hlt) = true) := he
              clear hd hb hno hyes he hfacts
              go_wp2_with (first | (go_at_call 5; refine (new_any _ _ _ _ _ _).mono ?_; rintro e w1 ⟨rfl, hw1⟩; subst hw1) | (go_at_call 6; refine HN.out.mono ?_; rintro e w2 ⟨rfl, m, hw2⟩; obtain ⟨o2, b2, B2⟩ := after_look hw2 hown hbel hwB2; clear hw2) | (at_builtin; refine wpList_append_own_spare _ rfl (.tmp 73) (.tmp 78) 23 rfl w.heap.size 5 i0 1 Try.underlying23 hi hz1 _ M.length s.size _ rfl (o2.alloc _) ⟨w2.heap.size, 0, none⟩ 1 1 [.int .u8 ((s[p + 1]'hp1).toNat : Int)] rfl rfl (cell_one_new _ _ _) (one8 _) ?_ ?_; (omega); intro w3 hown3 hgrow3))
              obtain ⟨B3, B4⟩ := below_push b2 B2 hgrow3 hwB
              go_roundw
              case rel => exact ⟨j + 1, p + 2, M ++ [s[p + 1]'hp1], by omega, by go_num, by omega, by simp; omega, ⟨by rw [pos_yes HG.out HE.out, ← HP.out.1], by rw [HB.out, take_snoc l j _ HG.out, ← HP.out.2]⟩, own_push1 hown3, B3, B4⟩
              case measure => simp [intOf]; omega
          · have hpe := end_facts HS.out HP.out.1 HL.out hlt
            have hlt' : decide ((p : Int) < (s.size : Int)) = false := decide_eq_false (by omega)
            have hcv := conv_own hown
            rw [back HP.out.2 HL.out hlt] at hcv
            have hge : s.size ≤ p := by omega
            have hge' : (s.size : Int) ≤ (p : Int) := by omega
            clear hfacts hpe
            go_wp2_with fail
            go_ret
            exact ⟨rfl, hbel⟩

set_option maxHeartbeats 1000000 in
theorem law_false (a0 : ByteArray) (w : World) (hn : a0.size ≤ 65536) (l : List UInt8) (hl : l = a0.data.toList) (hll : l.length = a0.size) :
    Calls Try.prog 3 #[.string a0, .bool false] w fun e w' => e = .returned (.bool true) ∧ Below w.heap.size w w' := by
  have hn' : decide ((65536 : Int) < (a0.size : Int)) = false := decide_eq_false (by omega)
  have hmk := fun (w : World) => make23 (2 * a0.size) (by omega) w
  simp only [Int.natCast_mul, Int.cast_ofNat_Int] at hmk
  have HL : Hid (l = a0.data.toList) := hl
  have HLL : Hid (l.length = a0.size) := hll
  have hst := own_start w w.heap.size (2 * a0.size) (Nat.le_refl _) (by omega)
  obtain ⟨i0, hi, hz0, hz1, hz2⟩ := info_parts info5
  clear hl hll hz0 hz2
  go_enter Try.func3, Try.ntmps3
  go_wp2_with (go_at_call 4; refine (bytes_true _ _ _ hn).mono ?_; rintro e w' ⟨rfl, hw⟩; replace hw := hw.symm; subst hw)
  · go_loopw [6, 7] (fun v i wr => ∃ (k : Nat) (L : List UInt8), k ≤ a0.size ∧ i = .int .i64 k ∧ L.length ≤ 2 * k ∧ Hid (L = dbl false (l.take k)) ∧ Own8 w.heap.size w.heap.size (2 * a0.size) wr L v ∧ Below w.heap.size w wr ∧ w.heap.size ≤ wr.heap.size) (fun _ i _ => a0.size - (intOf i).toNat)
    case atStart => exact ⟨0, [], by omega, rfl, by simp, rfl, hst, (Below.refl _ _).alloc (Nat.le_refl _) _, by simp⟩
    case round =>
      clear hst hmk
      obtain ⟨k, L, hk, rfl, hL2, HD, ⟨rfl, hown⟩, hbel, hwB⟩ := hrel
      by_cases hlt : k < a0.size
      · have hlt' : decide ((k : Int) < (a0.size : Int)) = true := decide_eq_true (by omega)
        have HG : Hid (l[k]? = some (a0[k]'hlt)) := get_l HL.out hlt
        by_cases h36 : (a0[k]'hlt) = 36
        · have hb1 : (((a0[k]'hlt).toNat : Int) == 36) = true := by simp [h36]
          have he0 : esc false (a0[k]'hlt) = true := by simp [esc, h36]
          have HE : Hid (esc false (a0[k]'hlt) = true) := he0
          clear he0
          clear h36; go_wp2_with (first | (at_builtin; refine wpList_append_own_spare _ rfl (.tmp 43) (.tmp 45) 23 rfl w.heap.size 5 i0 1 Try.underlying23 hi hz1 w.heap.size L.length (2 * a0.size) _ rfl (hown.alloc _) ⟨wr.heap.size, 0, none⟩ 1 1 [.int .u8 ((a0[k]'hlt).toNat : Int)] rfl rfl (cell_one_new _ _ _) (one8 _) ?_ ?_; (omega); intro w1 hown1 hgrow1) | (at_builtin; refine wpList_append_own_spare _ rfl (.tmp 47) (.tmp 49) 23 rfl w.heap.size 5 i0 1 Try.underlying23 hi hz1 w.heap.size (L.length + 1) (2 * a0.size) _ rfl (hown1.alloc _) ⟨w1.heap.size, 0, none⟩ 1 1 [.int .u8 ((a0[k]'hlt).toNat : Int)] rfl rfl (cell_one_new _ _ _) (one8 _) ?_ ?_; (omega); intro w2 hown2 hgrow2))
          obtain ⟨B1, B2⟩ := below_push hbel hwB hgrow1 (Nat.le_refl _)
          obtain ⟨B3, B4⟩ := below_push B1 B2 hgrow2 (Nat.le_refl _)
          go_roundw
          case rel => first | exact ⟨k + 1, _, by omega, by go_num, by simp; omega, step_yes HD.out HG.out HE.out, own_push2 hown2, B3, B4⟩ | ((repeat apply Exists.intro); exact ⟨⟨k + 1, _, by omega, by go_num, by simp; omega, step_yes HD.out HG.out HE.out, own_push2 hown2, B3, B4⟩, rfl⟩)
          case measure => simp [intOf]; omega
        · have hb1 : (((a0[k]'hlt).toNat : Int) == 36) = false := ne_byte h36
          have he0 : esc false (a0[k]'hlt) = false := by simp [esc, h36]
          have HE : Hid (esc false (a0[k]'hlt) = false) := he0
          clear he0
          clear h36; go_wp2_with (first | (at_builtin; refine wpList_append_own_spare _ rfl (.tmp 47) (.tmp 49) 23 rfl w.heap.size 5 i0 1 Try.underlying23 hi hz1 w.heap.size L.length (2 * a0.size) _ rfl (hown.alloc _) ⟨wr.heap.size, 0, none⟩ 1 1 [.int .u8 ((a0[k]'hlt).toNat : Int)] rfl rfl (cell_one_new _ _ _) (one8 _) ?_ ?_; (omega); intro w2 hown2 hgrow2))
          obtain ⟨B3, B4⟩ := below_push hbel hwB hgrow2 (Nat.le_refl _)
          go_roundw
          case rel => first | exact ⟨k + 1, _, by omega, by go_num, by simp; omega, step_no HD.out HG.out HE.out, own_push1 hown2, B3, B4⟩ | ((repeat apply Exists.intro); exact ⟨⟨k + 1, _, by omega, by go_num, by simp; omega, step_no HD.out HG.out HE.out, own_push1 hown2, B3, B4⟩, rfl⟩)
          case measure => simp [intOf]; omega
      · have hlt' : decide ((k : Int) < (a0.size : Int)) = false := decide_eq_false (by omega)
        have hLf : L = dbl false l := by
          have := HD.out
          rw [List.take_of_length_le (by have := HLL.out; omega)] at this
          exact this
        have hcv := conv_own hown
        obtain ⟨s, hs⟩ : ∃ s : ByteArray, s = ⟨L.toArray⟩ := ⟨_, rfl⟩
        rw [← hs] at hcv
        have hS0 : s.data.toList = dbl false l := by rw [hs, ← hLf]
        have HS : Hid (s.data.toList = dbl false l) := hS0
        have hss : s.size ≤ 131072 := by
          have : s.size = L.length := by rw [hs]; rfl
          omega
        have hmk2 := fun (w : World) => make23 s.size (by omega) w
        have hst2 := own_start wr w.heap.size s.size hwB (by omega)
        have hbel2 := hbel.alloc hwB (.cells (madeCells #[.int .u8 0] s.size) 5)
        have hwB2 : w.heap.size ≤ (wr.alloc (.cells (madeCells #[.int .u8 0] s.size) 5)).heap.size := by simp; omega
        clear hs hLf hS0
        go_wp2_with fail
        clear hcv hmk2 hown
        go_loopw [10, 11] (fun v t wx => ∃ (j p : Nat) (M : List UInt8), j ≤ a0.size ∧ t = .int .i64 p ∧ p ≤ s.size ∧ M.length ≤ j ∧ Hid (p = (dbl false (l.take j)).length ∧ M = l.take j) ∧ Own8 w.heap.size wr.heap.size s.size wx M v ∧ Below w.heap.size w wx ∧ w.heap.size ≤ wx.heap.size) (fun _ t _ => s.size - (intOf t).toNat)
        case atStart => exact ⟨0, 0, [], by omega, rfl, by omega, by simp, ⟨by simp [dbl], by simp⟩, hst2, hbel2, hwB2⟩
        case round =>
          clear hst2 hbel2 hwB2 hbel hk hlt hlt' HD hL2
          obtain ⟨j, p, M, hj, rfl, hps, hMj, HP, ⟨rfl, hown⟩, hbel, hwB2⟩ := hrel
          have hfacts := look_facts HS.out HP.out.1 HL.out
          by_cases hlt : j < a0.size
          · obtain ⟨hjp, hplt, hyes, hno⟩ := hfacts hlt
            have hlt' : decide ((p : Int) < (s.size : Int)) = true := decide_eq_true (by omega)
            have hroom : M.length + 1 ≤ s.size := by omega
            have HG : Hid (l[j]? = some (a0[j]'hlt)) := get_l HL.out hlt
            cases he : esc false (a0[j]'hlt)
            · have hd := hno he
              have hb := byte_of_drop hplt hd
              have HB : Hid ((s[p]'hplt) = (a0[j]'hlt)) := hb
              have HN : Hid (Calls Try.prog 6 #[.pointer (some ⟨wr.heap.size, 0, none⟩), .int .i64 1] (wr.alloc (.cells #[.string s, .int .i64 p, .int .i64 1, .int .i64 0, .int .i64 0] 28)) fun e w' => e = .returned (.bool false) ∧ ∃ m, w' = (wr.alloc (.cells #[.string s, .int .i64 p, .int .i64 1, .int .i64 0, .int .i64 0] 28)).drewN m) := look_no false s p 1 wr _ _ rfl hss hd he
              have HE : Hid (esc false (a0[j]'hlt) = false) := he
              clear hd hb hno hyes he hfacts
              go_wp2_with (first | (go_at_call 5; refine (new_any _ _ _ _ _ _).mono ?_; rintro e w1 ⟨rfl, hw1⟩; subst hw1) | (go_at_call 6; refine HN.out.mono ?_; rintro e w2 ⟨rfl, m, hw2⟩; obtain ⟨o2, b2, B2⟩ := after_look hw2 hown hbel hwB2; clear hw2) | (at_builtin; refine wpList_append_own_spare _ rfl (.tmp 82) (.tmp 86) 23 rfl w.heap.size 5 i0 1 Try.underlying23 hi hz1 _ M.length s.size _ rfl (o2.alloc _) ⟨w2.heap.size, 0, none⟩ 1 1 [.int .u8 ((s[p]'hplt).toNat : Int)] rfl rfl (cell_one_new _ _ _) (one8 _) ?_ ?_; (omega); intro w3 hown3 hgrow3))
              obtain ⟨B3, B4⟩ := below_push b2 B2 hgrow3 hwB
              go_roundw
              case rel => exact ⟨j + 1, p + 1, M ++ [s[p]'hplt], by omega, by go_num, by omega, by simp; omega, ⟨by rw [pos_no HG.out HE.out, ← HP.out.1], by rw [HB.out, take_snoc l j _ HG.out, ← HP.out.2]⟩, own_push1 hown3, B3, B4⟩
              case measure => simp [intOf]; omega
            · obtain ⟨hp1, hd⟩ := hyes he
              have hlt1 : decide ((p : Int) + 1 < (s.size : Int)) = true := decide_eq_true (by omega)
              have hb := byte_of_drop hp1 (drop_succ hd)
              have HB : Hid ((s[p + 1]'hp1) = (a0[j]'hlt)) := hb
              have HN : Hid (Calls Try.prog 6 #[.pointer (some ⟨wr.heap.size, 0, none⟩), .int .i64 1] (wr.alloc (.cells #[.string s, .int .i64 p, .int .i64 1, .int .i64 0, .int .i64 0] 28)) fun e w' => e = .returned (.bool true) ∧ ∃ m, w' = (wr.alloc (.cells #[.string s, .int .i64 p, .int .i64 1, .int .i64 0, .int .i64 0] 28)).drewN m) := look_yes false s p 1 wr _ _ rfl hss hd he
              have HE : Hid (esc false (a0[j]'hlt) = true) := he
              clear hd hb hno hyes he hfacts
              go_wp2_with (first | (go_at_call 5; refine (new_any _ _ _ _ _ _).mono ?_; rintro e w1 ⟨rfl, hw1⟩; subst hw1) | (go_at_call 6; refine HN.out.mono ?_; rintro e w2 ⟨rfl, m, hw2⟩; obtain ⟨o2, b2, B2⟩ := after_look hw2 hown hbel hwB2; clear hw2) | (at_builtin; refine wpList_append_own_spare _ rfl (.tmp 73) (.tmp 78) 23 rfl w.heap.size 5 i0 1 Try.underlying23 hi hz1 _ M.length s.size _ rfl (o2.alloc _) ⟨w2.heap.size, 0, none⟩ 1 1 [.int .u8 ((s[p + 1]'hp1).toNat : Int)] rfl rfl (cell_one_new _ _ _) (one8 _) ?_ ?_; (omega); intro w3 hown3 hgrow3))
              obtain ⟨B3, B4⟩ := below_push b2 B2 hgrow3 hwB
              go_roundw
              case rel => exact ⟨j + 1, p + 2, M ++ [s[p + 1]'hp1], by omega, by go_num, by omega, by simp; omega, ⟨by rw [pos_yes HG.out HE.out, ← HP.out.1], by rw [HB.out, take_snoc l j _ HG.out, ← HP.out.2]⟩, own_push1 hown3, B3, B4⟩
              case measure => simp [intOf]; omega
          · have hpe := end_facts HS.out HP.out.1 HL.out hlt
            have hlt' : decide ((p : Int) < (s.size : Int)) = false := decide_eq_false (by omega)
            have hcv := conv_own hown
            rw [back HP.out.2 HL.out hlt] at hcv
            have hge : s.size ≤ p := by omega
            have hge' : (s.size : Int) ≤ (p : Int) := by omega
            clear hfacts hpe
            go_wp2_with fail
            go_ret
            exact ⟨rfl, hbel⟩

end Go.Proofs.Qxb6605595a.Law
