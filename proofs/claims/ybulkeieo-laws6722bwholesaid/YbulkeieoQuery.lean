/-
  THE CALLEE: '(Request).Query' (function 4 of the translation): three contracts, one a way.
-/
import Derived.Test.YbulkeieoRows
import Derived.WalkKit
import Derived.WalkSpells
import Derived.WalkLawsBesides
import Derived.RegionTactic
namespace Go.Proofs.Ybulkeieo
open Go.RowKit
set_option linter.unusedVariables false

set_option maxHeartbeats 400000 in
/-- No field: no words, and the rest has nil fields. -/
theorem query_empty (s : ByteArray) (a : Option Addr) (cap : Nat) (w : World) :
    Calls Yba.prog 4 #[.agg #[.string s, .slice a 0 cap]] w fun e w' => e = .returned (.tuple #[.string ⟨#[]⟩, .agg #[.string s, .slice none 0 0]]) ∧ Below w.heap.size w w' := by
  go_enter Yba.func4, Yba.ntmps4
  go_wp2
  go_region
  all_goals go_wp2
  all_goals exact bodyPost_ret (v := .tuple #[.string ⟨#[]⟩, .agg #[.string s, .slice none 0 0]]) (by simp [results, Yba.results4, go_sem]) rfl ⟨rfl, (((((Below.refl _ _).alloc (Nat.le_refl _) _).alloc (by simp) _).alloc (by simp; omega) _)).drew⟩

set_option maxHeartbeats 400000 in
/-- One field, and no room behind it. -/
theorem query_one (s t : ByteArray) (b off : Nat) (w : World) (hc : w.cell? ⟨b, off, none⟩ = some (.string t)) :
    Calls Yba.prog 4 #[.agg #[.string s, .slice (some ⟨b, off, none⟩) 1 1]] w fun e w' => e = .returned (.tuple #[.string t, .agg #[.string s, .slice (some ⟨b, off, none⟩) 0 0]]) ∧ Below w.heap.size w w' := by
  have hb : b < w.heap.size := World.block_lt_of_cell? _ _ hc
  have hb1 : b < w.heap.size + 1 := by omega
  have hb2 : b < w.heap.size + 1 + 1 := by omega
  go_enter Yba.func4, Yba.ntmps4
  go_wp2
  go_region
  all_goals go_wp2
  all_goals exact bodyPost_ret (v := .tuple #[.string t, .agg #[.string s, .slice (some ⟨b, off, none⟩) 0 0]]) (by simp [results, Yba.results4, go_sem]) rfl ⟨rfl, (((((Below.refl _ _).alloc (Nat.le_refl _) _).alloc (by simp) _).alloc (by simp; omega) _)).drew⟩

set_option maxHeartbeats 400000 in
/-- A field, and room behind it. -/
theorem query_more (s t : ByteArray) (b off len cap : Nat) (w : World) (hl : 0 < len) (hlc : len ≤ cap) (hm : cap ≤ maxLen) (hcap : ¬ cap = 1) (hc : w.cell? ⟨b, off, none⟩ = some (.string t)) :
    Calls Yba.prog 4 #[.agg #[.string s, .slice (some ⟨b, off, none⟩) len cap]] w fun e w' => e = .returned (.tuple #[.string t, .agg #[.string s, .slice (some ⟨b, off + 1, none⟩) (len - 1) (cap - 1)]]) ∧ Below w.heap.size w w' := by
  have hb : b < w.heap.size := World.block_lt_of_cell? _ _ hc
  have hb1 : b < w.heap.size + 1 := by omega
  have hb2 : b < w.heap.size + 1 + 1 := by omega
  unfold maxLen at hm
  have h0 : ((len : Int) == 0) = false := by simp; omega
  go_enter Yba.func4, Yba.ntmps4
  go_wp2
  go_region
  all_goals go_wp2
  all_goals exact bodyPost_ret (v := .tuple #[.string t, .agg #[.string s, .slice (some ⟨b, off + 1, none⟩) (len - 1) (cap - 1)]]) (by simp [results, Yba.results4, go_sem]) rfl ⟨rfl, (((((Below.refl _ _).alloc (Nat.le_refl _) _).alloc (by simp) _).alloc (by simp; omega) _)).drew⟩

end Go.Proofs.Ybulkeieo
