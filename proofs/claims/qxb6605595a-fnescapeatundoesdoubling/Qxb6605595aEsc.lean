import Derived.Test.Qxb6605595aRows
import Derived.WalkKit
import Derived.ProofKit
import Derived.OpenShut
import Derived.ShutString
import Derived.Deep.QuietTactic
import Derived.BigQuiet
import Derived.WalkLawsBesides
import Derived.WalkSpells
import Derived.Outline
namespace Go.Proofs.Qxb6605595a.Esc
open Go.ChangeShapes Go.WideShapes Go.ChangeAt Go.RowKit
set_option linter.unusedVariables false

/-- ZZnewParser -/
theorem new_any (s : ByteArray) (p l ls d : Int) (w : World) : Calls Try.prog 5 #[.string s, .int .i64 p, .int .i64 l, .int .i64 ls, .int .i64 d] w fun e w' => e = .returned (.pointer (some ⟨w.heap.size, 0, none⟩)) ∧ w' = w.alloc (.cells #[.string s, .int .i64 p, .int .i64 l, .int .i64 ls, .int .i64 d] 28) := by
  go_enter Try.func5, Try.ntmps5
  go_wp2
  go_ret
  exact ⟨rfl, rfl⟩

/-- escapeAt at the text's last byte -/
theorem at_end (b : Nat) (s : ByteArray) (p : Nat) (x : Int) (w : World) (c0 : w.cell? ⟨b, 0, none⟩ = some (.string s)) (c1 : w.cell? ⟨b, 1, none⟩ = some (.int .i64 p)) (hx : (x == 0) = false) (hs : s.size ≤ 1048576) (hp : p + 1 = s.size) :
    Calls Try.prog 7 #[.pointer (some ⟨b, 0, none⟩), .int .i64 x] w fun e w' => e = .returned (.bool false) ∧ ∃ m, w' = w.drewN m := by
  have hd : decide ((s.size : Int) ≤ (p : Int) + 1) = true := decide_eq_true (by omega)
  have hp' : (p : Int) + 1 ≤ 1048576 := by omega
  clear hp
  go_enter Try.func7, Try.ntmps7
  go_wp2
  go_quiet (fail)
  go_wp2
  go_ret
  exact ⟨rfl, _, rfl⟩

theorem slice_run (s : ByteArray) (p : Nat) (hp : p + 2 ≤ s.size) (w : World) :
    (Instr.slice 9 (.string s) (some (.int .i64 (p : Int))) (some (.int .i64 ((p : Int) + 2))) none).run Try.prog w = .ok (.string (s.extract p (p + 2))) w := by
  rw [run_slice_string_if w 9 s .i64 .i64 p (p + 2) Try.underlying9]
  rw [if_pos (by omega), if_pos (by omega)]
  have e1 : ((p : Int)).toNat = p := by omega
  have e2 : ((p : Int) + 2).toNat = p + 2 := by omega
  rw [e1, e2]

theorem pair_dollar (b : Nat) (s pr : ByteArray) (p : Nat) (x : Int) (w : World) (c0 : w.cell? ⟨b, 0, none⟩ = some (.string s)) (c1 : w.cell? ⟨b, 1, none⟩ = some (.int .i64 p)) (hx : (x == 0) = false) (hs : s.size ≤ 1048576) (hp : p + 1 < s.size)
    (hsl : ∀ w : World, (Instr.slice 9 (.string s) (some (.int .i64 (p : Int))) (some (.int .i64 ((p : Int) + 2))) none).run Try.prog w = .ok (.string pr) w) (h1 : (pr.toList == [36, 36]) = true) :
    Calls Try.prog 7 #[.pointer (some ⟨b, 0, none⟩), .int .i64 x] w fun e w' => e = .returned (.bool true) ∧ ∃ m, w' = w.drewN m := by
  have hd : decide ((s.size : Int) ≤ (p : Int) + 1) = false := decide_eq_false (by omega)
  have hp' : (p : Int) + 2 ≤ 1048576 := by omega
  go_enter Try.func7, Try.ntmps7
  go_wp2
  go_quiet (fail)
  go_wp2
  go_quiet (fail)
  go_wp2
  go_ret
  exact ⟨rfl, _, rfl⟩

theorem pair_back (b : Nat) (s pr : ByteArray) (p : Nat) (x : Int) (w : World) (c0 : w.cell? ⟨b, 0, none⟩ = some (.string s)) (c1 : w.cell? ⟨b, 1, none⟩ = some (.int .i64 p)) (hx : (x == 0) = false) (hs : s.size ≤ 1048576) (hp : p + 1 < s.size)
    (hsl : ∀ w : World, (Instr.slice 9 (.string s) (some (.int .i64 (p : Int))) (some (.int .i64 ((p : Int) + 2))) none).run Try.prog w = .ok (.string pr) w) (h1 : (pr.toList == [36, 36]) = false) (h2 : (pr.toList == [92, 92]) = true) (h4 : (x == 2) = true) :
    Calls Try.prog 7 #[.pointer (some ⟨b, 0, none⟩), .int .i64 x] w fun e w' => e = .returned (.bool true) ∧ ∃ m, w' = w.drewN m := by
  have hd : decide ((s.size : Int) ≤ (p : Int) + 1) = false := decide_eq_false (by omega)
  have hp' : (p : Int) + 2 ≤ 1048576 := by omega
  go_enter Try.func7, Try.ntmps7
  go_wp2
  go_quiet (fail)
  go_wp2
  go_quiet (fail)
  go_wp2
  go_ret
  exact ⟨rfl, _, rfl⟩

theorem pair_none (b : Nat) (s pr : ByteArray) (p : Nat) (x : Int) (w : World) (c0 : w.cell? ⟨b, 0, none⟩ = some (.string s)) (c1 : w.cell? ⟨b, 1, none⟩ = some (.int .i64 p)) (hx : (x == 0) = false) (hs : s.size ≤ 1048576) (hp : p + 1 < s.size)
    (hsl : ∀ w : World, (Instr.slice 9 (.string s) (some (.int .i64 (p : Int))) (some (.int .i64 ((p : Int) + 2))) none).run Try.prog w = .ok (.string pr) w) (h1 : (pr.toList == [36, 36]) = false) (h2 : (pr.toList == [92, 92]) = false) (h3 : (pr.toList == [92, 47]) = false) :
    Calls Try.prog 7 #[.pointer (some ⟨b, 0, none⟩), .int .i64 x] w fun e w' => e = .returned (.bool false) ∧ ∃ m, w' = w.drewN m := by
  have hd : decide ((s.size : Int) ≤ (p : Int) + 1) = false := decide_eq_false (by omega)
  have hp' : (p : Int) + 2 ≤ 1048576 := by omega
  go_enter Try.func7, Try.ntmps7
  go_wp2
  go_quiet (fail)
  go_wp2
  go_quiet (fail)
  go_wp2
  go_ret
  exact ⟨rfl, _, rfl⟩

theorem pair_one_a (b : Nat) (s pr : ByteArray) (p : Nat) (x : Int) (w : World) (c0 : w.cell? ⟨b, 0, none⟩ = some (.string s)) (c1 : w.cell? ⟨b, 1, none⟩ = some (.int .i64 p)) (hx : (x == 0) = false) (hs : s.size ≤ 1048576) (hp : p + 1 < s.size)
    (hsl : ∀ w : World, (Instr.slice 9 (.string s) (some (.int .i64 (p : Int))) (some (.int .i64 ((p : Int) + 2))) none).run Try.prog w = .ok (.string pr) w) (h1 : (pr.toList == [36, 36]) = false) (h2 : (pr.toList == [92, 92]) = true) (h4 : (x == 2) = false) :
    Calls Try.prog 7 #[.pointer (some ⟨b, 0, none⟩), .int .i64 x] w fun e w' => e = .returned (.bool false) ∧ ∃ m, w' = w.drewN m := by
  have hd : decide ((s.size : Int) ≤ (p : Int) + 1) = false := decide_eq_false (by omega)
  have hp' : (p : Int) + 2 ≤ 1048576 := by omega
  go_enter Try.func7, Try.ntmps7
  go_wp2
  go_quiet (fail)
  go_wp2
  go_quiet (fail)
  go_wp2
  go_ret
  exact ⟨rfl, _, rfl⟩

theorem pair_one_b (b : Nat) (s pr : ByteArray) (p : Nat) (x : Int) (w : World) (c0 : w.cell? ⟨b, 0, none⟩ = some (.string s)) (c1 : w.cell? ⟨b, 1, none⟩ = some (.int .i64 p)) (hx : (x == 0) = false) (hs : s.size ≤ 1048576) (hp : p + 1 < s.size)
    (hsl : ∀ w : World, (Instr.slice 9 (.string s) (some (.int .i64 (p : Int))) (some (.int .i64 ((p : Int) + 2))) none).run Try.prog w = .ok (.string pr) w) (h1 : (pr.toList == [36, 36]) = false) (h2 : (pr.toList == [92, 92]) = false) (h3 : (pr.toList == [92, 47]) = true) (h4 : (x == 2) = false) :
    Calls Try.prog 7 #[.pointer (some ⟨b, 0, none⟩), .int .i64 x] w fun e w' => e = .returned (.bool false) ∧ ∃ m, w' = w.drewN m := by
  have hd : decide ((s.size : Int) ≤ (p : Int) + 1) = false := decide_eq_false (by omega)
  have hp' : (p : Int) + 2 ≤ 1048576 := by omega
  go_enter Try.func7, Try.ntmps7
  go_wp2
  go_quiet (fail)
  go_wp2
  go_quiet (fail)
  go_wp2
  go_ret
  exact ⟨rfl, _, rfl⟩

end Go.Proofs.Qxb6605595a.Esc
