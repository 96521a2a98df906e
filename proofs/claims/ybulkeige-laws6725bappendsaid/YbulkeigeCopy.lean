/-
  THE CONTRACT OF 'zzs6725bcopy' (function 5): nil, or a new row of the same elements, its capacity its length.
-/
import Derived.Test.YbulkeigeRows
import Derived.WalkKit
import Derived.WalkSpells
import Derived.WalkLawsBesides
import Derived.Laws.CopyOwn
namespace Go.Proofs.Ybulkeige
open Go.RowKit
set_option linter.unusedVariables false

theorem info5 : (Yba.prog.info? 5).map (fun i => (i.zero, i.size, i.bytes)) = some (some (.int .u8 0), 1, 1) := by kernel_rfl
theorem size5 : (Yba.prog.info? 5).map (·.size) = some 1 := by kernel_rfl

theorem cells_of_row {w : World} {x : Addr} {zs : List Int} (h : ∀ i, i < zs.length → w.cell? (x.add i) = some (.int .u8 (zs.getD i 0))) (len : Nat) :
    ∀ j v, ((zs.take len).map (Value.int .u8))[j]? = some v → w.cell? (x.add j) = some v := by
  intro j v hj
  have hlt : j < ((zs.take len).map (Value.int .u8)).length := (List.getElem?_eq_some_iff.1 hj).1
  simp at hlt
  have hjz : j < zs.length := by omega
  rw [h j hjz]
  rw [List.getElem?_map, List.getElem?_take, if_pos (by omega)] at hj
  simp [List.getD, hjz] at hj ⊢
  exact hj

set_option maxHeartbeats 400000 in
theorem copy_nil (w : World) :
    Calls Yba.prog 5 #[.slice none 0 0] w fun e w' => e = .returned (.slice none 0 0) ∧ w' = w := by
  have qE := fun (w : World) (a : Option Addr) (n c : Nat) => Lib.run_eql_slice_nil (P := Yba.prog) w 22 5 a n c 0 0 Yba.underlying22
  go_enter Yba.func5, Yba.ntmps5
  go_wp2
  go_ret
  exact ⟨rfl, rfl⟩

set_option maxHeartbeats 400000 in
theorem copy_some (x : Addr) (len cap : Nat) (zs : List Int) (w : World) (hl : len ≤ cap) (hle : len ≤ 1048576) (hz : zs.length = cap)
    (hc : ∀ i, i < zs.length → w.cell? (x.add i) = some (.int .u8 (zs.getD i 0))) :
    Calls Yba.prog 5 #[.slice (some x) len cap] w fun e w' => e = .returned (.slice (some ⟨w.heap.size, 0, none⟩) len len) ∧
      w'.ownsRow w.heap.size 5 1 (.slice (some ⟨w.heap.size, 0, none⟩) len len) len ((zs.take len).map (Value.int .u8)) ∧ Below w.heap.size w w' := by
  obtain ⟨i0, hi, hz0, hz1, hz2⟩ := info_parts info5
  have qE := fun (w : World) (a : Option Addr) (n c : Nat) => Lib.run_eql_slice_nil (P := Yba.prog) w 22 5 a n c 0 0 Yba.underlying22
  go_enter Yba.func5, Yba.ntmps5
  go_wp2_with (at_make; refine wpList_make_full _ rfl _ _ 22 rfl w.heap.size 5 i0 (.int .u8 0) 1 Yba.underlying22 hi hz0 hz1 .i64 .i64 _ _ len rfl rfl rfl rfl (by rw [hz2]; omega) (by unfold maxLen; omega) (Nat.le_refl _) ?_)
  intro w1 hown hgrow
  have hB1 : Below w.heap.size w w1 := (Below.refl _ _).grown hgrow (Nat.le_refl _) (fun k h => by cases h)
  have hcl : ((zs.take len).map (Value.int .u8)).length = len := by simp; omega
  obtain ⟨cur, hg, hcur⟩ : ∃ cur, w1.heap[w.heap.size]? = some (.cells cur 5 (0, 0)) ∧ cur.size = len := by
    rcases hown.2 with ⟨h', _⟩ | ⟨g', cap', cur, h', _, hg, _, _, hcs, _⟩
    · simp at h'
    · simp only [Value.slice.injEq, Option.some.injEq, Addr.mk.injEq, and_true, true_and] at h'
      obtain ⟨rfl, rfl⟩ := h'
      exact ⟨cur, hg, by omega⟩
  have hcc : ∀ i, i < zs.length → w1.cell? (x.add i) = some (.int .u8 (zs.getD i 0)) := fun i hi => by
    rw [hB1.cell (World.block_lt_of_cell? _ _ (hc i hi))]; exact hc i hi
  have hrun := run_copy_row (P := Yba.prog) w1 22 22 3 5 w.heap.size 0 len len x len cap cur 5 ((zs.take len).map (Value.int .u8)) Yba.underlying22 size5 hg (by rw [hcl]; simp) (cells_of_row hcc len) (by omega) (ints_oneCell _ _)
  rw [hcl, List.take_zero, List.nil_append, Nat.zero_add, List.drop_of_length_le (by simp; omega), List.append_nil] at hrun
  have hfin : (w1.setRow w.heap.size ((zs.take len).map (Value.int .u8)).toArray).ownsRow w.heap.size 5 1 (.slice (some ⟨w.heap.size, 0, none⟩) len len) len ((zs.take len).map (Value.int .u8)) :=
    ⟨by omega, .inr ⟨w.heap.size, len, _, rfl, Nat.le_refl _, setRow_heap w1 w.heap.size cur _ 5 _ hg, Nat.le_refl _, by unfold maxLen; omega, by simpa using hcl, List.take_of_length_le (by simp; omega)⟩⟩
  have hB2 : Below w.heap.size w (w1.setRow w.heap.size ((zs.take len).map (Value.int .u8)).toArray) := below_setRow hB1 (Nat.le_refl _) _
  clear hown hgrow hB1 hg hcur hcc hc hcl
  go_wp2
  go_ret
  exact ⟨rfl, by rw [← List.map_take]; exact hfin, by rw [← List.map_take]; exact hB2⟩

/-- Both ways: what comes back is nil or a row of the call's own, as long as it is wide. -/
theorem copy_any (a : Option Addr) (len cap : Nat) (zs : List Int) (w : World) (hle : len ≤ 1048576)
    (h : (a = none ∧ len = 0 ∧ cap = 0 ∧ zs = []) ∨ ∃ x, a = some x ∧ len ≤ cap ∧ zs.length = cap ∧ ∀ i, i < zs.length → w.cell? (x.add i) = some (.int .u8 (zs.getD i 0))) :
    Calls Yba.prog 5 #[.slice a len cap] w fun e w' => ∃ ao, e = .returned (.slice ao len len) ∧
      w'.ownsRow w.heap.size 5 1 (.slice ao len len) len ((zs.take len).map (Value.int .u8)) ∧ Below w.heap.size w w' := by
  rcases h with ⟨rfl, rfl, rfl, rfl⟩ | ⟨x, rfl, hl, hz, hc⟩
  · refine (copy_nil w).mono ?_
    rintro e w' ⟨rfl, rfl⟩
    exact ⟨none, rfl, World.ownsRow_nil _ _ _ _, Below.refl _ _⟩
  · exact (copy_some x len cap zs w hl hle hz hc).mono fun e w' h => ⟨_, h⟩

end Go.Proofs.Ybulkeige
