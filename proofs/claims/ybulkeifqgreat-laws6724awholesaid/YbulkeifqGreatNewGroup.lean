/-
  'newGroup' (16): a group that can lose no way.
-/
import Derived.Test.YbulkeifqGreatKey
import Derived.WalkKit
import Derived.WalkSpells
import Derived.WalkLawsBesides
import Derived.Deep.RegionWith
namespace Go.Proofs.YbulkeifqGreat
open Go.RowKit
set_option linter.unusedVariables false

theorem cell_up {w : World} {a : Addr} {v : Value} (o : Obj) (h : w.cell? a = some v) : (w.alloc o).cell? a = some v := cell_later ((Below.refl _ _).alloc (Nat.le_refl _) o) h

theorem alloc_new' (w : World) (o : Obj) (n : Nat) (hn : n = w.heap.size) : (w.alloc o).heap[n]? = some o := by subst hn; exact alloc_new w o

theorem ownsRow_mono' {w : World} {b b' : Nat} {e : TypeId} {size : Nat} {v : Value} {n : Nat} {xs : List Value} (h : w.ownsRow b e size v n xs) (hb : b' ≤ b) : w.ownsRow b' e size v n xs := by
  obtain ⟨h1, h2⟩ := h
  refine ⟨h1, ?_⟩
  rcases h2 with h2 | ⟨g, cap, cur, hv, hg, r⟩
  · exact Or.inl h2
  · exact Or.inr ⟨g, cap, cur, hv, Nat.le_trans hb hg, r⟩

theorem own_lt {w : World} {b : Nat} {e : TypeId} {size : Nat} {g n cap : Nat} {xs : List Value} (h : w.ownsRow b e size (.slice (some ⟨g, 0, none⟩) n cap) n xs) : g < w.heap.size ∧ b ≤ g := by
  rcases h.2 with ⟨h', _⟩ | ⟨g', cap', cur, h', hb, hg, _⟩
  · simp at h'
  · simp only [Value.slice.injEq, Option.some.injEq, Addr.mk.injEq, and_true, true_and] at h'
    obtain ⟨rfl, _⟩ := h'
    exact ⟨lt_blk hg, hb⟩

theorem ng_below {w W w1 W2 : World} (h : Below W.heap.size W w1) (hs : w.heap.size ≤ W.heap.size) (h0 : Below w.heap.size w W) (h2 : Below w1.heap.size w1 W2) : Below w.heap.size w W2 :=
  (h0.trans (h.mono hs)).trans (h2.mono (Nat.le_trans hs h.size))

set_option maxHeartbeats 1000000 in
theorem newGroup_any {w : World} {KB : Nat} {k0 k1 : Int} (mp : Value) (gs : Option Addr) (hKB : w.heap[KB]? = some (.cells #[.int .u32 k0, .int .u32 k1] 35 (0, 0))) :
    Calls Ybaz.prog 16 #[mp, .slice (some ⟨KB, 0, none⟩) 2 2, .slice gs 1 1, .bool false] w fun e w' => ∃ gb hb hc sb bb, e = .returned (.pointer (some ⟨gb, 0, none⟩)) ∧
      w'.heap[gb]? = some (.cells #[.slice (some ⟨hb, 0, none⟩) 2 hc, .int .i64 0, .slice (some ⟨sb, 0, none⟩) 1 1, .slice (some ⟨bb, 0, none⟩) 1 1, .slice none 0 0] 117 (0, 0)) ∧
      w'.ownsRow w.heap.size 35 1 (.slice (some ⟨hb, 0, none⟩) 2 hc) 2 [.int .u32 k0, .int .u32 k1] ∧ w'.heap[sb]? = some (.cells #[.map none] 119 (0, 0)) ∧ w'.heap[bb]? = some (.cells #[.int .u32 0] 35 (0, 0)) ∧
      hb ≠ bb ∧ w.heap.size ≤ gb ∧ w.heap.size ≤ hb ∧ w.heap.size ≤ sb ∧ w.heap.size ≤ bb ∧ Below w.heap.size w w' := by
  have p0 : w.cell? ⟨KB, 0, none⟩ = some (.int .u32 k0) := by rw [cell_blk hKB]; rfl
  have p1 : w.cell? ⟨KB, 1, none⟩ = some (.int .u32 k1) := by rw [cell_blk hKB]; rfl
  have hmk1 : ∀ w, (Instr.makeSlice 114 (.int .i64 1) (.int .i64 1)).run Ybaz.prog w = .ok (.slice (some ⟨w.heap.size, 0, none⟩) 1 1) (w.alloc (.cells #[.map none] 119)) := fun _ => by kernel_rfl
  have hmk2 : ∀ w, (Instr.makeSlice 26 (.int .i64 1) (.int .i64 1)).run Ybaz.prog w = .ok (.slice (some ⟨w.heap.size, 0, none⟩) 1 1) (w.alloc (.cells #[.int .u32 0] 35)) := fun _ => by kernel_rfl
  have HKB := hid' hKB
  have lK := lt_blk hKB
  clear hKB
  go_enter Ybaz.func16, Ybaz.ntmps16
  go_wp2
  go_region_with (go_at_call 9; refine (clone_two (x0 := .int .u32 k0) (x1 := .int .u32 k1) (by first | exact p0 | exact cell_up _ p0 | exact cell_up _ (cell_up _ p0)) (by first | exact p1 | exact cell_up _ p1 | exact cell_up _ (cell_up _ p1)) rfl rfl).mono ?_; rintro e w1 ⟨hb, hc, rfl, own1, bel1⟩)
  all_goals go_wp2
  all_goals go_ret
  all_goals
    clear p0 p1 hmk1 hmk2
    have hbl := (own_lt own1).1
    have hbb := (own_lt own1).2
    simp at hbb
    have hsz := bel1.size
    simp at hsz
    refine ⟨_, hb, hc, _, _, rfl, alloc_new' _ _ _ (by simp), ?_, ?_, ?_, ?_, ?_, ?_, ?_, ?_, ?_⟩
    · repeat refine World.ownsRow.alloc ?_ _
      exact ownsRow_mono' own1 (by simp; try omega)
    · first
        | exact alloc_old _ (alloc_new' _ _ _ (by simp; done))
        | exact alloc_old _ (alloc_old _ (alloc_new' _ _ _ (by simp; done)))
        | exact alloc_old _ ((bel1.block _ (by simp; try omega)).trans (alloc_new' _ _ _ (by simp; done)))
        | exact alloc_old _ ((bel1.block _ (by simp; try omega)).trans (alloc_old _ (alloc_new' _ _ _ (by simp; done))))
        | exact alloc_old _ (alloc_old _ ((bel1.block _ (by simp; try omega)).trans (alloc_new' _ _ _ (by simp; done))))
    · first
        | exact alloc_old _ (alloc_new' _ _ _ (by simp; done))
        | exact alloc_old _ (alloc_old _ (alloc_new' _ _ _ (by simp; done)))
        | exact alloc_old _ ((bel1.block _ (by simp; try omega)).trans (alloc_new' _ _ _ (by simp; done)))
        | exact alloc_old _ ((bel1.block _ (by simp; try omega)).trans (alloc_old _ (alloc_new' _ _ _ (by simp; done))))
        | exact alloc_old _ (alloc_old _ ((bel1.block _ (by simp; try omega)).trans (alloc_new' _ _ _ (by simp; done))))
    · omega
    · first | omega | (simp; omega)
    · omega
    · first | exact Nat.le_refl _ | omega | (simp; omega)
    · first | exact Nat.le_refl _ | omega | (simp; omega)
    · exact ng_below bel1 (by simp; try omega) (by first | exact (Below.refl _ _).drew | exact ((Below.refl _ _).alloc (Nat.le_refl _) _).drew | exact (((Below.refl _ _).alloc (Nat.le_refl _) _).alloc (by simp) _).drew) (by first | exact (Below.refl _ _).alloc (Nat.le_refl _) _ | exact ((Below.refl _ _).alloc (Nat.le_refl _) _).alloc (by simp) _ | exact (((Below.refl _ _).alloc (Nat.le_refl _) _).alloc (by simp) _).alloc (by simp; omega) _)
end Go.Proofs.YbulkeifqGreat
