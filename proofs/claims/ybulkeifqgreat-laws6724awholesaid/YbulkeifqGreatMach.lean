/-
  THE MACHINE IN MEMORY: its struct, the row of its values, its map of ids.
-/
import Derived.Test.YbulkeifqGreatLeaf
import Derived.Maps.OwnSet
import Derived.Maps.OwnOps
import Derived.ProofKit
import Derived.Deep.AppendLies
namespace Go.Proofs.YbulkeifqGreat
open Go.RowKit Go.Maps
set_option linter.unusedVariables false

theorem laidOut : laidOutB Ybaz.prog = true := by kernel_rfl
theorem row39 : 39 < Ybaz.prog.types.size := of_decide_eq_true (by kernel_rfl)
theorem wide39 : (match Ybaz.prog.underlying 39 with | some (.array _ _) | some (.struct _) => true | _ => false) = true := by kernel_rfl
set_option maxRecDepth 100000 in
theorem law39 : Keyed Ybaz.prog 39 := Keyed.of_law (deep_law_laid laidOut (m := 3) (by omega) row39 (by kernel_rfl) wide39)
theorem kt39 : Ybaz.prog.keyType 39 = true := by kernel_rfl
theorem cells39 : Ybaz.prog.cellsOf 39 = 3 := by kernel_rfl
theorem cells37 : Ybaz.prog.cellsOf 37 = 1 := by kernel_rfl
theorem cells2 : Ybaz.prog.cellsOf 2 = 1 := by kernel_rfl
theorem cells9 : Ybaz.prog.cellsOf 9 = 1 := by kernel_rfl

/-- What the key IntValue(i) reads as. -/
def klOf (i : Int) : Lit := .string (keyBytes [.int .u8 0, .int .i64 i, .string []])

theorem key39 (i : Int) (hi : (Lit.int .i64 i).wf = true) : keyOf Ybaz.prog 39 (vInt i) = some (klOf i) := by
  have hf : (vInt i).formed Ybaz.prog 39 = true := by kernel_rfl
  have h0 : (Lit.int .u8 0).wf = true := by decide
  have hs : nil8.size = 0 := rfl
  obtain ⟨N, hN⟩ : ∃ N, Ybaz.prog.types.size + 1 = N + 2 := ⟨Ybaz.prog.types.size - 1, by have := row39; omega⟩
  unfold keyOf klOf
  rw [Ybaz.underlying39]
  simp only [kt39, hf, hN]
  simp [Program.keyLits, Ybaz.underlying39, Ybaz.underlying37, Ybaz.underlying2, Ybaz.underlying9, cells39, cells37, cells2, cells9, Value.cells, hi, h0, hs, maxLen]

theorem klOf_inj {i j : Int} (hi : (Lit.int .i64 i).wf = true) (hj : (Lit.int .i64 j).wf = true) (h : klOf i = klOf j) : i = j := by
  have := law39.inj (key39 i hi) (h ▸ key39 j hj)
  simpa [vInt] using this

theorem klOf_key (i : Int) : WideAt.IsKeyLit (klOf i) := trivial

/-- The three cells of a value. -/
def vCells (i : Int) : List Value := [.int .u8 0, .int .i64 i, .string nil8]

theorem vCells_len (vs : List Int) : (vs.flatMap vCells).length = vs.length * 3 := by
  induction vs with
  | nil => rfl
  | cons a r ih => rw [List.flatMap_cons, List.length_append, ih]; simp [vCells]; omega

theorem vCells_at (vs : List Int) (j : Nat) (hj : j < vs.length) (o : Nat) (ho : o < 3) : (vs.flatMap vCells)[j * 3 + o]? = (vCells (vs.getD j 0))[o]? := by
  induction vs generalizing j with
  | nil => simp at hj
  | cons a r ih =>
    rw [List.flatMap_cons]
    cases j with
    | zero => rw [List.getElem?_append_left (by simp [vCells]; omega)]; simp [List.getD]
    | succ j =>
      rw [List.getElem?_append_right (by simp [vCells]; omega)]
      have : (j + 1) * 3 + o - (vCells a).length = j * 3 + o := by simp [vCells]; omega
      rw [this, ih j (by simpa using hj)]
      simp [List.getD]

/-- The ids' map: the values vs stand at their places. -/
def IdsOK (D : DataW Unit) (vs : List Int) : Prop :=
  ∀ i, (Lit.int .i64 i).wf = true → Maps.has D (klOf i) = decide (i ∈ vs) ∧ (i ∈ vs → D.atKey (klOf i) (.lit (.int .u32 0)) = .lit (.int .u32 (vs.idxOf i : Nat)))

/-- The machine's struct as it lies. -/
abbrev mCells (vv : Value) (I : Nat) (cur : Value) (work : Int) : Array Value :=
  #[.pointer none, vv, .map (some I), .slice none 0 0, .int .i64 256, .int .i64 0, .slice none 0 0, cur, .int .i64 0, .pointer none, .int .i64 work, .int .i64 0]

/-- THE MACHINE at block M (its ids' map at block I) holds the values vs, each once; 'cur': its cursors; 'work': its count. All of it lies from B on. -/
structure Mach (w : World) (B M I : Nat) (vs : List Int) (cur : Value) (work : Int) : Prop where
  blk : ∃ vv, w.heap[M]? = some (.cells (mCells vv I cur work) 31 (0, 0)) ∧ w.ownsRow B 39 3 vv vs.length (vs.flatMap vCells)
  ids : ∃ D, w.ownsMap Ybaz.prog 39 (plainElem Ybaz.prog 35) I vs.length D ∧ IdsOK D vs
  nodup : vs.Nodup
  wf : ∀ i ∈ vs, (Lit.int .i64 i).wf = true
  len : vs.length ≤ 8000000
  lo : B ≤ M ∧ B ≤ I

theorem Mach.kept {w w' : World} {B M I : Nat} {vs : List Int} {cur : Value} {work : Int} (h : Mach w B M I vs cur work) {D : List Nat} {T : List TypeId} (f : Fr B D T w w') (hM : M ∉ D) (hI : I ∉ D) (h31 : 31 ∉ T) (h39 : 39 ∉ T) (hv : ∀ k cs fr, w.heap[k]? = some (.cells cs 39 fr) → k ∉ D) : Mach w' B M I vs cur work := by
  obtain ⟨vv, h1, h2⟩ := h.blk
  obtain ⟨d, h3, h4⟩ := h.ids
  refine ⟨⟨vv, f.keep h1 hM h31, f.ownsRow h2 ?_ h39⟩, ⟨d, f.ownsMap h3 hI, h4⟩, h.nodup, h.wf, h.len, h.lo⟩
  intro k hk
  rcases h2.2 with ⟨rfl, _⟩ | ⟨g, cap, c0, rfl, _, hg, _⟩
  · cases hk
  · cases hk; exact hv _ _ _ hg

theorem Mach.below {w w' : World} {B M I : Nat} {vs : List Int} {cur : Value} {work : Int} (h : Mach w B M I vs cur work) (f : Below w.heap.size w w') : Mach w' B M I vs cur work :=
  h.kept (Fr.of_below (D := []) (T := []) f) (by simp) (by simp) (by simp) (by simp) (by simp)

end Go.Proofs.YbulkeifqGreat
