/-
  THE LAW: the blocks it lays ahead of 'aggregate'. No walk.
-/
import Derived.Test.YbulkeifqGreatLawStart
namespace Go.Proofs.YbulkeifqGreat
open Go.RowKit Go.Maps
set_option linter.unusedVariables false

/-- What the law's switch makes of 'sel'. -/
def SelOK (sel : Nat) (op rg : Int) : Prop := (sel = 0 ∧ op = 0 ∧ rg = -1) ∨ (sel = 1 ∧ op = 0 ∧ rg = 1) ∨ (sel = 2 ∧ op = 1 ∧ rg = 1) ∨ (sel = 3 ∧ op = 2 ∧ rg = 1)

theorem SelOK.mode {sel : Nat} {op rg : Int} (h : SelOK sel op rg) : Mode op rg := by
  rcases h with ⟨_, h⟩ | ⟨_, h⟩ | ⟨_, h⟩ | ⟨_, h⟩
  · exact .inl h
  · exact .inr (.inl h)
  · exact .inr (.inr ⟨.inl h.1, h.2⟩)
  · exact .inr (.inr ⟨.inr h.1, h.2⟩)

abbrev oRel (D n : Nat) : Obj := .cells #[.string ⟨#[113]⟩, .int .i64 2, .slice (some ⟨D, 0, none⟩) (2 * n) (2 * n), .int .i64 n, .pointer none, .slice none 0 0, .slice none 0 0, .int .i64 0, .int .i64 0, .int .i64 n, .int .i64 (-1)] 46
abbrev oArgs : Obj := .cells #[.int .i64 0, .bool true, .int .i64 0, .int .u32 0, .int .i64 1, .bool true, .int .i64 1, .int .u32 0] 51
abbrev oStep (RL AB : Nat) : Obj := .cells #[.int .u8 0, .int .i64 0, .int .i32 (-1), .pointer (some ⟨RL, 0, none⟩), .pointer none, .slice none 0 0, .slice none 0 0, .slice (some ⟨AB, 0, none⟩) 2 2, .string ⟨#[]⟩, .pointer none, .pointer none, .int .i64 (-1), .pointer none, .bool false, .bool false] 56
abbrev oAgg (op rg : Int) : Obj := .cells #[.int .i64 1, .int .u8 op, .int .i64 rg] 59
abbrev oHead : Obj := .cells #[.int .i64 0, .int .u32 0, .int .i64 1, .int .u32 0] 49
abbrev rCells (SB HB GB : Nat) : Array Value := #[.pointer none, .pointer none, .pointer none, .slice none 0 0, .slice none 0 0, .slice none 0 0, .slice (some ⟨SB, 0, none⟩) 1 1, .int .i64 0, .slice none 0 0, .slice none 0 0, .slice none 0 0, .int .i64 0, .int .i64 0, .slice none 0 0, .int .i64 0, .slice (some ⟨HB, 0, none⟩) 2 2, .slice (some ⟨GB, 0, none⟩) 1 1]

theorem law_static {w wc Y0 Y1 Y2 : World} {M I D n stop : Nat} {K : Nat → Nat} {V : Nat → Int} {vs : List Int} {op rg : Int} (h : L1 w wc M I D n n K V vs) (hn : n ≤ 1048576)
    (hY0 : Y0 = (wc.alloc (oRel D n)).alloc oArgs)
    (hY1 : Y1 = (((((Y0.alloc (oStep wc.heap.size (wc.heap.size + 1))).alloc (oAgg op rg)).alloc (oStep wc.heap.size (wc.heap.size + 1))).alloc oHead).alloc (oAgg op rg)).alloc (.cells (rCells (Y0.heap.size + 1 + 1) (Y0.heap.size + 1 + 1 + 1) (Y0.heap.size + 1 + 1 + 1 + 1)) 71))
    (hY2 : Y2 = ((((Y1.alloc (.cells #[.int .u32 2] 72)).alloc (.cells #[.int .u32 0, .int .u32 0] 35)).alloc (.cells #[.int .i64 stop] 3)).alloc (.cells #[.slice none 0 0] 75)).alloc (.cells #[.int .i64 0] 3)) :
    Scan Y2 (Y0.heap.size + 1 + 1) wc.heap.size D (wc.heap.size + 1) n (fun i => vs.idxOf (K i : Int)) (fun i => vs.idxOf (V i)) ∧ Mach Y2 w.heap.size M I vs (.slice none 0 0) ((0 : Nat) : Int) ∧
    Y2.heap[Y0.heap.size + 1 + 1 + 1 + 1 + 1]? = some (.cells (rCells (Y0.heap.size + 1 + 1) (Y0.heap.size + 1 + 1 + 1) (Y0.heap.size + 1 + 1 + 1 + 1)) 71 (0, 0)) ∧
    Y2.heap[Y0.heap.size + 1 + 1 + 1]? = some oHead ∧ Y2.heap[Y0.heap.size + 1 + 1 + 1 + 1]? = some (oAgg op rg) ∧
    Y2.heap[Y1.heap.size]? = some (.cells #[.int .u32 2] 72 (0, 0)) ∧ Y2.heap[Y1.heap.size + 1]? = some (.cells #[.int .u32 (0 : Nat), .int .u32 (0 : Nat)] 35 (0, 0)) ∧ Y2.heap[Y1.heap.size + 1 + 1]? = some (.cells #[.int .i64 stop] 3 (0, 0)) ∧
    Y2.heap[Y1.heap.size + 1 + 1 + 1]? = some (.cells #[.slice none 0 0] 75 (0, 0)) ∧ Y2.heap[Y1.heap.size + 1 + 1 + 1 + 1]? = some (.cells #[.int .i64 0] 3 (0, 0)) ∧
    Below w.heap.size w Y2 ∧ w.heap.size ≤ Y1.heap.size ∧ D < Y1.heap.size ∧ (∀ i, i < n → vs.idxOf (K i : Int) < vs.length ∧ vs.idxOf (V i) < vs.length) ∧ vs.length ≤ 2097152 := by
  have b0 : Below wc.heap.size wc Y0 := by rw [hY0]; exact ((Below.refl _ _).alloc (Nat.le_refl _) _).alloc (by simp) _
  have b1 : Below Y0.heap.size Y0 Y1 := by rw [hY1]; exact ((((((Below.refl _ _).alloc (Nat.le_refl _) _).alloc (by simp) _).alloc (by simp; omega) _).alloc (by simp; omega) _).alloc (by simp; omega) _).alloc (by simp; omega) _
  have b2 : Below Y1.heap.size Y1 Y2 := by rw [hY2]; exact (((((Below.refl _ _).alloc (Nat.le_refl _) _).alloc (by simp) _).alloc (by simp; omega) _).alloc (by simp; omega) _).alloc (by simp; omega) _
  have s0 := b0.size
  have s1 := b1.size
  have hb : Below wc.heap.size wc Y2 := b0.trans ((b1.mono s0).trans (b2.mono (by omega)))
  have up0 : ∀ {b : Nat} {o : Obj}, Y0.heap[b]? = some o → Y2.heap[b]? = some o := fun {b o} h => (b2.block _ (by have := lt_blk h; omega)).trans ((b1.block _ (lt_blk h)).trans h)
  have up1 : ∀ {b : Nat} {o : Obj}, Y1.heap[b]? = some o → Y2.heap[b]? = some o := fun {b o} h => (b2.block _ (lt_blk h)).trans h
  have yR : Y2.heap[wc.heap.size]? = some (oRel D n) := up0 (by rw [hY0]; exact alloc_old _ (alloc_new' _ _ _ rfl))
  have yA : Y2.heap[wc.heap.size + 1]? = some oArgs := up0 (by rw [hY0]; exact alloc_new' _ _ _ (by simp))
  have yS : Y2.heap[Y0.heap.size + 1 + 1]? = some (oStep wc.heap.size (wc.heap.size + 1)) := up1 (by rw [hY1]; exact alloc_old _ (alloc_old _ (alloc_old _ (alloc_new' _ _ _ (by simp)))))
  obtain ⟨cs, d1, d2, d3⟩ := h.data
  have lD := lt_blk d1
  have hBw := h.bel.size
  refine ⟨⟨⟨_, yS, rfl, rfl, rfl⟩, ⟨_, yR, rfl, rfl, rfl, rfl, rfl, rfl⟩, ⟨cs, (hb.block _ lD).trans d1, d3⟩, yA, hn⟩, h.mach.below hb, up1 (by rw [hY1]; exact alloc_new' _ _ _ (by simp)), up1 (by rw [hY1]; exact alloc_old _ (alloc_old _ (alloc_new' _ _ _ (by simp)))), up1 (by rw [hY1]; exact alloc_old _ (alloc_new' _ _ _ (by simp))), ?_, ?_, ?_, ?_, ?_, h.bel.trans (hb.mono hBw), by omega, by omega, fun i hi => ⟨(getD_idxOf (h.mem i hi).1).1, (getD_idxOf (h.mem i hi).2).1⟩, by have := h.len; omega⟩
  · rw [hY2]; exact alloc_old _ (alloc_old _ (alloc_old _ (alloc_old _ (alloc_new' _ _ _ rfl))))
  · rw [hY2]; exact alloc_old _ (alloc_old _ (alloc_old _ (alloc_new' _ _ _ (by simp))))
  · rw [hY2]; exact alloc_old _ (alloc_old _ (alloc_new' _ _ _ (by simp)))
  · rw [hY2]; exact alloc_old _ (alloc_new' _ _ _ (by simp))
  · rw [hY2]; exact alloc_new' _ _ _ (by simp)
end Go.Proofs.YbulkeifqGreat
