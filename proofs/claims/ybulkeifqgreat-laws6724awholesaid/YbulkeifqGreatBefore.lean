/-
  THE CONTRACTS OF 'lang.Compare' (48) at two integers, AND 'before' (29).
-/
import Derived.Test.YbulkeifqGreatIntern
import Derived.WalkKit
import Derived.WalkSpells
import Derived.WalkLawsBesides
import Derived.Deep.RegionWith
import Derived.Deep.RegionHeld3
namespace Go.Proofs.YbulkeifqGreat
open Go.RowKit Go.Maps
set_option linter.unusedVariables false

/-- What Compare answers at two integers. -/
def cmpI (x y : Int) : Int := if x < y then -1 else if y < x then 1 else 0

set_option maxHeartbeats 400000 in
theorem compare_any (x y : Int) (w : World) :
    Calls Ybaz.prog 48 #[vInt x, vInt y] w fun e w' => e = .returned (.int .i64 (cmpI x y)) ∧ Below w.heap.size w w' := by
  by_cases h1 : x < y
  · have hd : decide (x < y) = true := decide_eq_true h1
    have HE := hid (show cmpI x y = -1 by simp [cmpI, h1])
    go_enter Ybaz.func48, Ybaz.ntmps48
    go_wp2
    go_ret
    rw [HE.out]
    exact ⟨rfl, ((Below.refl _ _).alloc (Nat.le_refl _) _).alloc (by simp) _⟩
  · have hd : decide (x < y) = false := decide_eq_false h1
    by_cases h2 : y < x
    · have HE := hid (show cmpI x y = 1 by simp [cmpI, h1, h2])
      go_enter Ybaz.func48, Ybaz.ntmps48
      go_wp2
      go_ret
      rw [HE.out]
      exact ⟨rfl, ((Below.refl _ _).alloc (Nat.le_refl _) _).alloc (by simp) _⟩
    · have hd : decide (y < x) = false := decide_eq_false h2
      have HE := hid (show cmpI x y = 0 by simp [cmpI, h1, h2])
      go_enter Ybaz.func48, Ybaz.ntmps48
      go_wp2
      go_ret
      rw [HE.out]
      exact ⟨rfl, ((Below.refl _ _).alloc (Nat.le_refl _) _).alloc (by simp) _⟩

/-- A value's three cells, where the machine keeps it. -/
theorem mach_cells {w : World} {B M I : Nat} {vs : List Int} {cur : Value} {work : Int} (h : Mach w B M I vs cur work) (hn : 0 < vs.length) :
    ∃ g cap, w.heap[M]? = some (.cells (mCells (.slice (some ⟨g, 0, none⟩) vs.length cap) I cur work) 31 (0, 0)) ∧ g < w.heap.size ∧ M < w.heap.size ∧
      ∀ j, j < vs.length → w.cell? ⟨g, j * 3, none⟩ = some (.int .u8 0) ∧ w.cell? ⟨g, j * 3 + 1, none⟩ = some (.int .i64 (vs.getD j 0)) ∧ w.cell? ⟨g, j * 3 + 2, none⟩ = some (.string nil8) := by
  obtain ⟨vv, hb, hown⟩ := h.blk
  rcases hown.2 with ⟨_, h0⟩ | ⟨g, cap, cs, rfl, _, hg, hc, _, _, ht⟩
  · omega
  · refine ⟨g, cap, hb, lt_blk hg, lt_blk hb, fun j hj => ?_⟩
    have at' : ∀ o, o < 3 → w.cell? ⟨g, j * 3 + o, none⟩ = (vCells (vs.getD j 0))[o]? := fun o ho => by
      rw [hown.cellAt (j * 3 + o) (by omega), vCells_at vs j hj o ho]
    exact ⟨by simpa [vCells] using at' 0 (by omega), by simpa [vCells] using at' 1 (by omega), by simpa [vCells] using at' 2 (by omega)⟩

set_option maxHeartbeats 1000000 in
theorem before_core {w : World} {M g cap n : Nat} {a b : Nat} {x y : Int} {op c : Int} {r : Bool} (ha' : (a : Int) < (n : Int)) (hb' : (b : Int) < (n : Int)) (hl : n ≤ 8000000)
    (c1 : w.cell? ⟨M, 1, none⟩ = some (.slice (some ⟨g, 0, none⟩) n cap))
    (a0 : w.cell? ⟨g, a * 3, none⟩ = some (.int .u8 0)) (a1 : w.cell? ⟨g, a * 3 + 1, none⟩ = some (.int .i64 x)) (a2 : w.cell? ⟨g, a * 3 + 2, none⟩ = some (.string nil8))
    (b0 : w.cell? ⟨g, b * 3, none⟩ = some (.int .u8 0)) (b1 : w.cell? ⟨g, b * 3 + 1, none⟩ = some (.int .i64 y)) (b2 : w.cell? ⟨g, b * 3 + 2, none⟩ = some (.string nil8))
    (hcmp : ∀ w, Calls Ybaz.prog 48 #[vInt x, vInt y] w fun e w' => e = .returned (.int .i64 c) ∧ Below w.heap.size w w')
    (hop : (op = 1 ∧ c < 0 ∧ r = true) ∨ (op = 1 ∧ ¬ c < 0 ∧ r = false) ∨ (op = 2 ∧ 0 < c ∧ r = true) ∨ (op = 2 ∧ ¬ 0 < c ∧ r = false)) :
    Calls Ybaz.prog 29 #[.pointer (some ⟨M, 0, none⟩), .int .u8 op, .int .u32 a, .int .u32 b] w fun e w' => e = .returned (.bool r) ∧ Below w.heap.size w w' := by
  have HC := hid hcmp
  clear hcmp
  rcases hop with ⟨rfl, hcc, rfl⟩ | ⟨rfl, hcc, rfl⟩ | ⟨rfl, hcc, rfl⟩ | ⟨rfl, hcc, rfl⟩
  all_goals
    first
      | have hd : decide (c < 0) = true := decide_eq_true hcc
      | have hd : decide (c < 0) = false := decide_eq_false hcc
      | have hd : decide (0 < c) = true := decide_eq_true hcc
      | have hd : decide (0 < c) = false := decide_eq_false hcc
    go_enter Ybaz.func29, Ybaz.ntmps29
    go_wp2
    go_region_held3 (fun w' => w'.cell? ⟨M, 1, none⟩ = some (.slice (some ⟨g, 0, none⟩) n cap) ∧ w'.cell? ⟨g, a * 3, none⟩ = some (.int .u8 0) ∧ w'.cell? ⟨g, a * 3 + 1, none⟩ = some (.int .i64 x) ∧ w'.cell? ⟨g, a * 3 + 2, none⟩ = some (.string nil8) ∧ w'.cell? ⟨g, b * 3, none⟩ = some (.int .u8 0) ∧ w'.cell? ⟨g, b * 3 + 1, none⟩ = some (.int .i64 y) ∧ w'.cell? ⟨g, b * 3 + 2, none⟩ = some (.string nil8))
      (first | go_keep | (go_split_ands; refine ⟨?_, ?_, ?_, ?_, ?_, ?_, ?_⟩ <;> exact cell_later hbel (by assumption)))
      (first | (go_at_call 48; refine (HC.out _).mono ?_; rintro e w1 ⟨rfl, hbel⟩))
    go_wp2
    go_ret
    exact ⟨rfl, ((Below.refl _ _).drew).trans hbel⟩

/-- What before answers: 1 is min's order, 2 is max's. -/
def befB (op : Int) (x y : Int) : Bool := if op = 1 then decide (x < y) else decide (y < x)

theorem before_any {w : World} {B M I : Nat} {vs : List Int} {cur : Value} {work : Int} (h : Mach w B M I vs cur work) (op : Int) (a b : Nat) (ha : a < vs.length) (hb : b < vs.length) (hop : op = 1 ∨ op = 2) :
    Calls Ybaz.prog 29 #[.pointer (some ⟨M, 0, none⟩), .int .u8 op, .int .u32 a, .int .u32 b] w fun e w' => e = .returned (.bool (befB op (vs.getD a 0) (vs.getD b 0))) ∧ Below w.heap.size w w' := by
  obtain ⟨g, cap, hM, hgs, hMs, hc⟩ := mach_cells h (by omega)
  have c1 : w.cell? ⟨M, 1, none⟩ = some (.slice (some ⟨g, 0, none⟩) vs.length cap) := by rw [cell_blk hM]; rfl
  obtain ⟨a0, a1, a2⟩ := hc a ha
  obtain ⟨b0, b1, b2⟩ := hc b hb
  refine before_core (by omega) (by omega) h.len c1 a0 a1 a2 b0 b1 b2 (fun w => compare_any _ _ w) ?_
  generalize vs.getD a 0 = x at *
  generalize vs.getD b 0 = y at *
  rcases hop with rfl | rfl
  · by_cases hxy : x < y
    · exact .inl ⟨rfl, by simp [cmpI, hxy], by simp [befB, hxy]⟩
    · refine .inr (.inl ⟨rfl, ?_, by simp [befB, hxy]⟩)
      unfold cmpI
      rw [if_neg hxy]
      split <;> omega
  · by_cases hxy : y < x
    · refine .inr (.inr (.inl ⟨rfl, ?_, by simp [befB, hxy]⟩))
      unfold cmpI
      rw [if_neg (by omega), if_pos hxy]
      omega
    · refine .inr (.inr (.inr ⟨rfl, ?_, by simp [befB, hxy]⟩))
      unfold cmpI
      split
      · omega
      · simp

end Go.Proofs.YbulkeifqGreat
