/-
  'aggregate' (10): the state in which 'exec' is called. No walk.
-/
import Derived.Test.YbulkeifqGreatAggLaws
namespace Go.Proofs.YbulkeifqGreat
open Go.RowKit Go.Maps
set_option linter.unusedVariables false

theorem own_empty {X : World} {GM : Nat} {P : Program} {k : TypeId} {R : Value → Option (DataW Unit × List MemPlace)} (h : X.heap[GM]? = some (.map #[] 0)) : X.ownsMap P k R GM 0 (.map []) := by
  obtain ⟨es, ck, h1, F, h3, h4⟩ := World.ownsMap_made X P k R
  rw [alloc_new] at h1
  cases h1
  exact ⟨_, _, h, F, h3, h4⟩

theorem agg_start {w X0 X : World} {SB RL DB AB n : Nat} {kd vd : Nat → Nat} {RU HB GB RB M I B PB : Nat} {op rg : Int} {vs : List Int} {k v : Nat} {rcs : Array Value}
    (hX0 : X0 = (((((w.alloc (.cells #[.pointer (some ⟨M, 0, none⟩)] 85)).alloc (.cells #[.pointer (some ⟨RU, 0, none⟩)] 60)).alloc (.cells #[.slice (some ⟨RB, 0, none⟩) 2 2] 26)).alloc (.map #[] 0)).alloc (.cells #[.map (some (w.heap.size + 1 + 1 + 1))] 88)).alloc (.cells #[.slice none 0 0] 89))
    (hX : X = ((X0.alloc (.cells #[.int .u32 0, .int .u32 0] 35)).alloc (.cells #[.slice (some ⟨X0.heap.size, 0, none⟩) 2 2] 26)).alloc (.cells #[.slice none 0 0] 79))
    (hS : Scan w SB RL DB AB n kd vd) (hM : Mach w B M I vs (.slice none 0 0) ((0 : Nat) : Int)) (hRU : w.heap[RU]? = some (.cells rcs 71 (0, 0))) (h15 : rcs[15]? = some (.slice (some ⟨HB, 0, none⟩) 2 2)) (h16 : rcs[16]? = some (.slice (some ⟨GB, 0, none⟩) 1 1))
    (hHB : w.heap[HB]? = some (.cells #[.int .i64 0, .int .u32 0, .int .i64 1, .int .u32 0] 49 (0, 0))) (hGB : w.heap[GB]? = some (.cells #[.int .i64 1, .int .u8 op, .int .i64 rg] 59 (0, 0))) (hRB : w.heap[RB]? = some (.cells #[.int .u32 k, .int .u32 v] 35 (0, 0))) (hPB : w.heap[PB]? = some (.cells #[.int .u32 2] 72 (0, 0)))
    (hBR : B ≤ RB) (hne : RB ≠ DB) :
    XSt X SB RL DB AB n kd vd (w.heap.size + 1) (w.heap.size + 1 + 1) (X0.heap.size + 1) (X0.heap.size + 1 + 1) (w.heap.size + 1 + 1 + 1 + 1) w.heap.size (w.heap.size + 1 + 1 + 1 + 1 + 1) RU HB GB RB X0.heap.size (w.heap.size + 1 + 1 + 1) M I X.heap.size B PB op rg vs (.slice none 0 0) ((0 : Nat) : Int) 0 k v [] ∧ Below w.heap.size w X := by
  have hb0 : Below w.heap.size w X0 := by
    rw [hX0]
    exact ((((((Below.refl _ _).alloc (Nat.le_refl _) _).alloc (by simp) _).alloc (by simp; omega) _).alloc (by simp; omega) _).alloc (by simp; omega) _).alloc (by simp; omega) _
  have hs0 : X0.heap.size = w.heap.size + 6 := by rw [hX0]; simp
  have hb1 : Below X0.heap.size X0 X := by rw [hX]; exact (((Below.refl _ _).alloc (Nat.le_refl _) _).alloc (by simp) _).alloc (by simp; omega) _
  have hb : Below w.heap.size w X := hb0.trans (hb1.mono (by omega))
  have hsX : X.heap.size = w.heap.size + 9 := by rw [hX]; simp [hs0]
  have up : ∀ {b : Nat} {o : Obj}, X0.heap[b]? = some o → X.heap[b]? = some o := fun {b o} h => by rw [hX]; exact alloc_old _ (alloc_old _ (alloc_old _ h))
  have y5 : X.heap[w.heap.size]? = some (.cells #[.pointer (some ⟨M, 0, none⟩)] 85 (0, 0)) := up (by rw [hX0]; exact alloc_old _ (alloc_old _ (alloc_old _ (alloc_old _ (alloc_old _ (alloc_new' _ _ _ (by simp)))))))
  have y0 : X.heap[w.heap.size + 1]? = some (.cells #[.pointer (some ⟨RU, 0, none⟩)] 60 (0, 0)) := up (by rw [hX0]; exact alloc_old _ (alloc_old _ (alloc_old _ (alloc_old _ (alloc_new' _ _ _ (by simp))))))
  have y1 : X.heap[w.heap.size + 1 + 1]? = some (.cells #[.slice (some ⟨RB, 0, none⟩) 2 2] 26 (0, 0)) := up (by rw [hX0]; exact alloc_old _ (alloc_old _ (alloc_old _ (alloc_new' _ _ _ (by simp)))))
  have yM : X.heap[w.heap.size + 1 + 1 + 1]? = some (.map #[] 0) := up (by rw [hX0]; exact alloc_old _ (alloc_old _ (alloc_new' _ _ _ (by simp))))
  have y4 : X.heap[w.heap.size + 1 + 1 + 1 + 1]? = some (.cells #[.map (some (w.heap.size + 1 + 1 + 1))] 88 (0, 0)) := up (by rw [hX0]; exact alloc_old _ (alloc_new' _ _ _ (by simp)))
  have y6 : X.heap[w.heap.size + 1 + 1 + 1 + 1 + 1]? = some (.cells #[.slice none 0 0] 89 (0, 0)) := up (by rw [hX0]; exact alloc_new' _ _ _ (by simp))
  have yK : X.heap[X0.heap.size]? = some (.cells #[.int .u32 0, .int .u32 0] 35 (0, 0)) := by rw [hX]; exact alloc_old _ (alloc_old _ (alloc_new' _ _ _ rfl))
  have y2 : X.heap[X0.heap.size + 1]? = some (.cells #[.slice (some ⟨X0.heap.size, 0, none⟩) 2 2] 26 (0, 0)) := by rw [hX]; exact alloc_old _ (alloc_new' _ _ _ (by simp))
  have y3 : X.heap[X0.heap.size + 1 + 1]? = some (.cells #[.slice none 0 0] 79 (0, 0)) := by rw [hX]; exact alloc_new' _ _ _ (by simp)
  have old : ∀ {b : Nat} {o : Obj}, w.heap[b]? = some o → X.heap[b]? = some o := fun {b o} h => (hb.block _ (lt_blk h)).trans h
  have lR := lt_blk hRB
  obtain ⟨vv, m1, _⟩ := hM.blk
  obtain ⟨D0, ⟨es, ck, m2, _⟩, _⟩ := hM.ids
  obtain ⟨c3, d1, _⟩ := hS.data
  have lM := lt_blk m1
  have lI := lt_blk m2
  have lD := lt_blk d1
  have hlo := hM.lo
  refine ⟨⟨hS.below hb, ⟨y0, y1, y2, y4, y5, ⟨rcs, old hRU, h15, h16⟩, old hHB, old hGB, old hRB, by omega⟩, ?_, hM.below hb, rfl, old hPB, by omega⟩, hb⟩
  refine ⟨⟨_, _, yK⟩, ⟨none, 0, 0, [], by omega, y3, ⟨rfl, .inl ⟨rfl, rfl⟩⟩⟩, ⟨_, y6, ⟨rfl, .inl ⟨rfl, rfl⟩⟩⟩, ⟨.map [], ?_, mapOK_empty⟩, ⟨X.heap.size, Nat.le_refl _, Nat.le_refl _⟩, by simp, by simp, by omega⟩
  exact own_empty yM
end Go.Proofs.YbulkeifqGreat
