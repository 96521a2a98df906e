/-
  THE SMALL FUNCTIONS: IntValue (6), newMachine (4), refStep (7), step (21), span (22), get (14).
-/
import Derived.Test.YbulkeifqGreatRows
import Derived.Test.YbulkeifqGreatFrame
import Derived.WalkKit
import Derived.WalkSpells
import Derived.WalkLawsBesides
namespace Go.Proofs.YbulkeifqGreat
open Go.RowKit
set_option linter.unusedVariables false

/-- The empty string. -/
abbrev nil8 : ByteArray := ⟨#[]⟩
/-- The Go value IntValue(i). -/
abbrev vInt (i : Int) : Value := .agg #[.int .u8 0, .int .i64 i, .string nil8]

set_option maxHeartbeats 400000 in
theorem intValue_any (i : Int) (w : World) :
    Calls Ybaz.prog 6 #[.int .i64 i] w fun e w' => e = .returned (vInt i) ∧ w' = w.alloc (.cells #[.int .u8 0, .int .i64 i, .string nil8] 39) := by
  go_enter Ybaz.func6, Ybaz.ntmps6
  go_wp2
  exact bodyPost_ret (v := vInt i) (by simp [results, Ybaz.results6, go_sem]) rfl ⟨rfl, rfl⟩

set_option maxHeartbeats 400000 in
theorem newMachine_any (w : World) :
    Calls Ybaz.prog 4 #[.pointer none] w fun e w' => e = .returned (.agg #[.pointer none, .slice none 0 0, .map (some (w.heap.size + 1)), .slice none 0 0, .int .i64 256, .int .i64 0, .slice none 0 0, .slice none 0 0, .int .i64 0, .pointer none, .int .i64 0, .int .i64 0]) ∧
      ∃ cs, w' = (w.alloc (.cells cs 31)).alloc (.map #[] 0) := by
  have hmm := @run_makeMap Ybaz.prog
  go_enter Ybaz.func4, Ybaz.ntmps4
  go_wp2
  exact bodyPost_ret (v := .agg #[.pointer none, .slice none 0 0, .map (some (w.heap.size + 1)), .slice none 0 0, .int .i64 256, .int .i64 0, .slice none 0 0, .slice none 0 0, .int .i64 0, .pointer none, .int .i64 0, .int .i64 0]) (by simp [results, Ybaz.results4, go_sem]) rfl ⟨rfl, _, rfl⟩

set_option maxHeartbeats 400000 in
theorem refStep_any (w : World) : Calls Ybaz.prog 7 #[.int .i64 0, .int .u8 2] w fun e w' => e = .returned (.int .u32 2) ∧ w' = w := by
  go_enter Ybaz.func7, Ybaz.ntmps7
  go_wp2
  go_ret
  exact ⟨rfl, rfl⟩

set_option maxHeartbeats 400000 in
theorem step_any (w : World) : Calls Ybaz.prog 21 #[.int .u32 2] w fun e w' => e = .returned (.int .i64 0) ∧ w' = w := by
  go_enter Ybaz.func21, Ybaz.ntmps21
  go_wp2
  go_ret
  exact ⟨rfl, rfl⟩

set_option maxHeartbeats 400000 in
theorem span_any (w : World) : Calls Ybaz.prog 22 #[.int .u32 2] w fun e w' => e = .returned (.int .u8 2) ∧ w' = w := by
  go_enter Ybaz.func22, Ybaz.ntmps22
  go_wp2
  go_ret
  exact ⟨rfl, rfl⟩

set_option maxHeartbeats 400000 in
/-- 'a.get(regs)', a register. -/
theorem get_any (k : Nat) (b n c : Nat) (x : Value) (id : Value) (w : World) (hk : k < n) (hn : n ≤ 1000) (hc : w.cell? ⟨b, k, none⟩ = some x) :
    Calls Ybaz.prog 14 #[.agg #[.int .i64 k, id], .slice (some ⟨b, 0, none⟩) n c] w fun e w' => e = .returned x ∧ w' = w.alloc (.cells #[.int .i64 k, id] 49) := by
  have hb : b < w.heap.size := World.block_lt_of_cell? _ _ hc
  have hk' : (k : Int) < (n : Int) := by omega
  go_enter Ybaz.func14, Ybaz.ntmps14
  go_wp2
  go_ret
  exact ⟨rfl, rfl⟩

end Go.Proofs.YbulkeifqGreat
