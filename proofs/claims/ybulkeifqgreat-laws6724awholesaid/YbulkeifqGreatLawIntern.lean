/-
  THE LAW's FIRST LOOP: the rows' keys and values are interned. No walk.
-/
import Derived.Test.YbulkeifqGreatLawMem
import Derived.Test.YbulkeifqGreatIntern
import Derived.Laws.MakeOwn
namespace Go.Proofs.YbulkeifqGreat
open Go.RowKit Go.Maps
set_option linter.unusedVariables false

/-- 'make([]uint32, 2*n)' -/
theorem make_data {n : Nat} (hn : n ≤ 1048576) : ∃ D0 : Array Value, D0.size = 2 * n ∧ ∀ w, (Instr.makeSlice 26 (.int .i64 (2 * (n : Int))) (.int .i64 (2 * (n : Int)))).run Ybaz.prog w = .ok (.slice (some ⟨w.heap.size, 0, none⟩) (2 * n) (2 * n)) (w.alloc (.cells D0 35)) := by
  obtain ⟨i0, hi0, hz0, hz1, hz2⟩ := info_parts info35
  have e : (2 * (n : Int)).toNat = 2 * n := by omega
  refine ⟨madeCells (Value.int .u32 0).cells (2 * n), size_madeCells _ _, fun w => ?_⟩
  have := run_makeSlice (P := Ybaz.prog) w 26 35 i0 (.int .u32 0) Ybaz.underlying26 hi0 hz0 .i64 .i64 (2 * (n : Int)) (2 * (n : Int)) (by omega) (Int.le_refl _) (by rw [hz1, e]; omega) (by rw [hz2]; omega) (by omega)
  rw [hz1, e] at this
  simpa using this

/-- When q rows have been interned: the machine's values vs, the ids at D. -/
structure L1 (w0 w : World) (M I D n q : Nat) (K : Nat → Nat) (V : Nat → Int) (vs : List Int) : Prop where
  mach : Mach w w0.heap.size M I vs (.slice none 0 0) ((0 : Nat) : Int)
  data : ∃ cs, w.heap[D]? = some (.cells cs 35 (0, 0)) ∧ cs.size = 2 * n ∧ ∀ i, i < q → cs[2 * i]? = some (.int .u32 (vs.idxOf (K i : Int) : Nat)) ∧ cs[2 * i + 1]? = some (.int .u32 (vs.idxOf (V i) : Nat))
  mem : ∀ i, i < q → (K i : Int) ∈ vs ∧ V i ∈ vs
  len : vs.length ≤ 2 * q
  bel : Below w0.heap.size w0 w
  lo : w0.heap.size ≤ D

theorem idxOf_app {vs ext : List Int} {x : Int} (h : x ∈ vs) : (vs ++ ext).idxOf x = vs.idxOf x := by
  rw [List.idxOf_append, if_pos h]

/-- A row more: K's id (vs, ext), then V's id (vs ++ ext, ext'). -/
theorem L1.step {w0 w w2 w3 w5 w6 : World} {M I D n q : Nat} {K : Nat → Nat} {V : Nat → Int} {vs ext ext' : List Int} {o o' : Obj} (h : L1 w0 w M I D n q K V vs) (hq : q < n)
    (hb2 : Below w.heap.size w w2) (hf3 : Fr w0.heap.size [M, I] [39] w2 w3) (hx : ext = [] ∨ ext = [(K q : Int)]) (hm : (K q : Int) ∈ vs ++ ext)
    (hb5 : Below (w3.setCell ⟨D, 2 * q, none⟩ (.int .u32 ((vs ++ ext).idxOf (K q : Int) : Nat))).heap.size (w3.setCell ⟨D, 2 * q, none⟩ (.int .u32 ((vs ++ ext).idxOf (K q : Int) : Nat))) w5) (hf6 : Fr w0.heap.size [M, I] [39] w5 w6) (hx' : ext' = [] ∨ ext' = [V q]) (hm' : V q ∈ vs ++ ext ++ ext') (hM6 : Mach w6 w0.heap.size M I (vs ++ ext ++ ext') (.slice none 0 0) ((0 : Nat) : Int)) :
    L1 w0 (w6.setCell ⟨D, 2 * q + 1, none⟩ (.int .u32 ((vs ++ ext ++ ext').idxOf (V q) : Nat))) M I D n (q + 1) K V (vs ++ ext ++ ext') := by
  obtain ⟨cs, d1, d2, d3⟩ := h.data
  obtain ⟨m1, m2⟩ := h.mach.ne d1 (by decide)
  have nD : D ∉ [M, I] := by simp [m1, m2]
  have e2 := (hb2.block _ (lt_blk d1)).trans d1
  have e3 := hf3.keep e2 nD (by decide)
  have e4 := set_blk e3 (2 * q) (.int .u32 ((vs ++ ext).idxOf (K q : Int) : Nat))
  have e5 := (hb5.block _ (lt_blk e4)).trans e4
  have e6 := hf6.keep e5 nD (by decide)
  have e7 := set_blk e6 (2 * q + 1) (.int .u32 ((vs ++ ext ++ ext').idxOf (V q) : Nat))
  have hs2 := hb2.size
  have hB := h.bel.size
  have hs3 := hf3.size
  have hs5 := hb5.size
  have hs6 := hf6.size
  simp only [World.setCell] at hs5
  simp at hs5
  have b1 : Below w0.heap.size w0 w3 := h.bel.trans ((hb2.mono hB).trans (hf3.below (by omega)))
  have b2 : Below w0.heap.size w0 (w3.setCell ⟨D, 2 * q, none⟩ (.int .u32 ((vs ++ ext).idxOf (K q : Int) : Nat))) := b1.setCell h.lo _
  have b3 : Below w0.heap.size w0 w6 := b2.trans ((hb5.mono (by simp [World.setCell]; omega)).trans (hf6.below (by omega)))
  refine ⟨hM6.set e6 (by decide) (by decide) h.lo _, ⟨_, e7, by simpa using d2, fun i hi => ?_⟩, fun i hi => ?_, ?_, b3.setCell h.lo _, h.lo⟩
  · by_cases e : i = q
    · subst e
      constructor
      · rw [Array.getElem?_setIfInBounds_ne (by omega), idxOf_app hm, Array.getElem?_setIfInBounds, if_pos rfl, if_pos (by omega)]
      · rw [Array.getElem?_setIfInBounds, if_pos rfl, if_pos (by simp; omega)]
    · have hi' : i < q := by omega
      rw [Array.getElem?_setIfInBounds_ne (by omega), Array.getElem?_setIfInBounds_ne (by omega), Array.getElem?_setIfInBounds_ne (by omega), Array.getElem?_setIfInBounds_ne (by omega)]
      rw [List.append_assoc, idxOf_app (h.mem i hi').1, idxOf_app (h.mem i hi').2]
      exact d3 i hi'
  · by_cases e : i = q
    · subst e
      exact ⟨List.mem_append_left _ hm, hm'⟩
    · have := h.mem i (by omega)
      exact ⟨List.mem_append_left _ (List.mem_append_left _ this.1), List.mem_append_left _ (List.mem_append_left _ this.2)⟩
  · have := h.len
    rcases hx with rfl | rfl <;> rcases hx' with rfl | rfl <;> simp <;> omega

/-- The row of ids. -/
def Ids (w : World) (D m : Nat) : Prop := ∃ cs, w.heap[D]? = some (.cells cs 35 (0, 0)) ∧ cs.size = m

theorem Ids.below {w w' : World} {D m : Nat} (h : Ids w D m) (b : Below w.heap.size w w') : Ids w' D m := by
  obtain ⟨cs, h1, h2⟩ := h
  exact ⟨cs, (b.block _ (lt_blk h1)).trans h1, h2⟩

theorem Ids.fr {w w' : World} {B M I D m : Nat} {vs : List Int} {cur : Value} {work : Int} (h : Ids w D m) (hM : Mach w B M I vs cur work) (f : Fr B [M, I] [39] w w') : Ids w' D m := by
  obtain ⟨cs, h1, h2⟩ := h
  obtain ⟨m1, m2⟩ := hM.ne h1 (by decide)
  exact ⟨cs, f.keep h1 (by simp [m1, m2]) (by decide), h2⟩

theorem Ids.set {w : World} {D m j : Nat} {v : Value} (h : Ids w D m) : Ids (w.setCell ⟨D, j, none⟩ v) D m := by
  obtain ⟨cs, h1, h2⟩ := h
  exact ⟨_, set_blk h1 _ _, by simpa using h2⟩

theorem Ids.cell {w : World} {D m j : Nat} (h : Ids w D m) (hj : j < m) : ∃ x, w.cell? ⟨D, j, none⟩ = some x ∧ w.frozen? ⟨D, j, none⟩ = false ∧ D < w.heap.size := by
  obtain ⟨cs, h1, h2⟩ := h
  exact ⟨cs[j]'(by omega), by rw [cell_blk h1, Array.getElem?_eq_getElem (by omega)], free_blk h1 _, lt_blk h1⟩

theorem Ids.mach {w : World} {B M I D m j : Nat} {vs : List Int} {cur : Value} {work : Int} {v : Value} (h : Ids w D m) (hM : Mach w B M I vs cur work) (hB : B ≤ D) : Mach (w.setCell ⟨D, j, none⟩ v) B M I vs cur work := by
  obtain ⟨cs, h1, h2⟩ := h
  exact hM.set h1 (by decide) (by decide) hB _

theorem fr34 {w w' : World} {B M I b : Nat} {cs : Array Value} {vs : List Int} {cur : Value} {work : Int} (h : w.heap[b]? = some (.cells cs 34 (0, 0))) (hM : Mach w B M I vs cur work) (f : Fr B [M, I] [39] w w') : w'.heap[b]? = some (.cells cs 34 (0, 0)) := by
  obtain ⟨m1, m2⟩ := hM.ne h (by decide)
  exact f.keep h (by simp [m1, m2]) (by decide)

theorem L1.ids {w0 w : World} {M I D n q : Nat} {K : Nat → Nat} {V : Nat → Int} {vs : List Int} (h : L1 w0 w M I D n q K V vs) : Ids w D (2 * n) := by
  obtain ⟨cs, h1, h2, _⟩ := h.data
  exact ⟨cs, h1, h2⟩

theorem wf_u8 {k : Nat} (h : k < 256) : (Lit.int .i64 (k : Int)).wf = true := by
  exact Go.WalkArith.wf_i64 ⟨by omega, by omega⟩
end Go.Proofs.YbulkeifqGreat
