/-
  THE LAW: the state at its first loop. No walk.
-/
import Derived.Test.YbulkeifqGreatLawIntern
import Derived.Test.YbulkeifqGreatAggStart
namespace Go.Proofs.YbulkeifqGreat
open Go.RowKit Go.Maps
set_option linter.unusedVariables false

theorem law_start {w X : World} {n : Nat} {K : Nat → Nat} {V : Nat → Int} {cs D0 : Array Value} (hD0 : D0.size = 2 * n)
    (hX : X = (((w.alloc (.cells cs 31)).alloc (.map #[] 0)).alloc (.cells #[.pointer none, .slice none 0 0, .map (some (w.heap.size + 1)), .slice none 0 0, .int .i64 256, .int .i64 0, .slice none 0 0, .slice none 0 0, .int .i64 0, .pointer none, .int .i64 0, .int .i64 0] 31)).alloc (.cells D0 35)) :
    L1 w X (w.heap.size + 1 + 1) (w.heap.size + 1) (w.heap.size + 1 + 1 + 1) n 0 K V [] := by
  have yI : X.heap[w.heap.size + 1]? = some (.map #[] 0) := by rw [hX]; exact alloc_old _ (alloc_old _ (alloc_new' _ _ _ (by simp)))
  have yM : X.heap[w.heap.size + 1 + 1]? = some (.cells (mCells (.slice none 0 0) (w.heap.size + 1) (.slice none 0 0) ((0 : Nat) : Int)) 31 (0, 0)) := by rw [hX]; exact alloc_old _ (alloc_new' _ _ _ (by simp))
  have yD : X.heap[w.heap.size + 1 + 1 + 1]? = some (.cells D0 35 (0, 0)) := by rw [hX]; exact alloc_new' _ _ _ (by simp)
  have hb : Below w.heap.size w X := by
    rw [hX]
    exact ((((Below.refl _ _).alloc (Nat.le_refl _) _).alloc (by simp) _).alloc (by simp; omega) _).alloc (by simp; omega) _
  refine ⟨⟨⟨_, yM, rfl, .inl ⟨rfl, rfl⟩⟩, ⟨.map [], own_empty yI, ?_⟩, List.nodup_nil, by simp, by simp, by omega, by omega⟩, ⟨_, yD, hD0, by simp⟩, by simp, by simp, hb, by omega⟩
  intro i hi
  simp [Maps.has, DataW.atKey]
end Go.Proofs.YbulkeifqGreat
