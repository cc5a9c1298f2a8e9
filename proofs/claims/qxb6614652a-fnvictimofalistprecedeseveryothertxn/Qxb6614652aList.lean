import Derived.Test.Qxb6614652aPrec
namespace Go.Proofs.Qxb6614652a.Victim
open Go.ChangeShapes Go.WideShapes Go.ChangeAt Go.RowKit Marks Order
set_option linter.unusedVariables false

/-- the candidates as they lie in memory: x: where they begin; four cells each -/
structure Cands (w : World) (b off n : Nat) (I : Nat → ByteArray) (Pr : Nat → Int) (St : Nat → ByteArray) (Sq : Nat → Int) : Prop where
  lt : b < w.heap.size
  c0 : ∀ i, i < n → w.cell? ⟨b, off + i * 4, none⟩ = some (.string (I i))
  c1 : ∀ i, i < n → w.cell? ⟨b, off + i * 4 + 1, none⟩ = some (.int .i64 (Pr i))
  c2 : ∀ i, i < n → w.cell? ⟨b, off + i * 4 + 1 + 1, none⟩ = some (.string (St i))
  c3 : ∀ i, i < n → w.cell? ⟨b, off + i * 4 + 1 + 1 + 1, none⟩ = some (.int .u64 (Sq i))

theorem Cands.ext {w w' : World} {b off n : Nat} {I : Nat → ByteArray} {Pr : Nat → Int} {St : Nat → ByteArray} {Sq : Nat → Int} (h : Cands w b off n I Pr St Sq) (hx : Ext w w') : Cands w' b off n I Pr St Sq where
  lt := Nat.lt_of_lt_of_le h.lt hx.size
  c0 := fun i hi => (hx.cell (p := ⟨b, off + i * 4, none⟩) h.lt).trans (h.c0 i hi)
  c1 := fun i hi => (hx.cell (p := ⟨b, off + i * 4 + 1, none⟩) h.lt).trans (h.c1 i hi)
  c2 := fun i hi => (hx.cell (p := ⟨b, off + i * 4 + 1 + 1, none⟩) h.lt).trans (h.c2 i hi)
  c3 := fun i hi => (hx.cell (p := ⟨b, off + i * 4 + 1 + 1 + 1, none⟩) h.lt).trans (h.c3 i hi)

/-- a bool came back -/
def SomeBool (e : Ending) : Prop := ∃ r, e = .returned (.bool r)

/-- zzBytes -/
theorem bytes_any (b off n cap : Nat) (I : Nat → ByteArray) (Pr : Nat → Int) (St : Nat → ByteArray) (Sq : Nat → Int) (w : World) (h : Cands w b off n I Pr St Sq) (hm : n ≤ maxLen) :
    Calls Try.prog 10 #[.slice (some ⟨b, off, none⟩) n cap] w fun e w' => SomeBool e ∧ w' = w := by
  unfold maxLen at hm
  by_cases hn : n ≤ 1048576
  · go_enter Try.func10, Try.ntmps10
    go_wp2
    go_loop [3, 4] (fun z i => ∃ (k : Nat) (s : Int), k ≤ n ∧ i = .int .i64 k ∧ z = .int .i64 s ∧ 0 ≤ s ∧ s ≤ 1048576) (fun _ i => n - (intOf i).toNat)
    case atStart => exact ⟨0, n, by omega, rfl, by go_num, by omega, by omega⟩
    case round =>
      obtain ⟨k, s, hk, rfl, rfl, hs0, hs1⟩ := hrel
      by_cases hlt : k < n
      · have q0 := h.c0 k hlt
        have q2 := h.c2 k hlt
        by_cases b1 : (I k).size ≤ 1048576
        · by_cases b2 : s + (I k).size ≤ 1048576
          · by_cases b3 : (St k).size ≤ 1048576
            · by_cases b4 : s + (I k).size + (St k).size ≤ 1048576
              · go_wp2
                go_round
                case rel => exact ⟨k + 1, s + (I k).size + (St k).size, by omega, by go_num, by go_num, by omega, by omega⟩
                case measure => simp [intOf]; omega
              · go_wp2
                go_ret
                exact ⟨⟨_, rfl⟩, rfl⟩
            · go_wp2
              go_ret
              exact ⟨⟨_, rfl⟩, rfl⟩
          · go_wp2
            go_ret
            exact ⟨⟨_, rfl⟩, rfl⟩
        · go_wp2
          go_ret
          exact ⟨⟨_, rfl⟩, rfl⟩
      · go_wp2
        go_ret
        exact ⟨⟨_, rfl⟩, rfl⟩
  · go_enter Try.func10, Try.ntmps10
    go_wp2
    go_ret
    exact ⟨⟨_, rfl⟩, rfl⟩

end Go.Proofs.Qxb6614652a.Victim
