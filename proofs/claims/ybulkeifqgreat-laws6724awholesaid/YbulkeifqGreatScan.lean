/-
  THE SCAN: 'rows' (38), 'first' (24), 'more' (26), 'has' (40), 'row' (44), 'match' (43), 'next' (25), over the one relation and the one step.
-/
import Derived.Test.YbulkeifqGreatRows
import Derived.Test.YbulkeifqGreatCh
import Derived.Test.YbulkeifqGreatLeaf
import Derived.WalkKit
import Derived.WalkSpells
import Derived.WalkLawsBesides
import Derived.Deep.QuietTactic
import Derived.BigQuiet
import Derived.Deep.RegionHeld3
namespace Go.Proofs.YbulkeifqGreat
open Go.RowKit
set_option linter.unusedVariables false

/-- What the scan reads: the step at SB, its relation at RL, the relation's rows at DB, the step's args at AB. 'kd i', 'vd i': the two ids of row i. -/
structure Scan (w : World) (SB RL DB AB n : Nat) (kd vd : Nat → Nat) : Prop where
  step : ∃ cs, w.heap[SB]? = some (.cells cs 56 (0, 0)) ∧ cs[0]? = some (.int .u8 0) ∧ cs[3]? = some (.pointer (some ⟨RL, 0, none⟩)) ∧ cs[7]? = some (.slice (some ⟨AB, 0, none⟩) 2 2)
  rel : ∃ cs, w.heap[RL]? = some (.cells cs 46 (0, 0)) ∧ cs[1]? = some (.int .i64 2) ∧ cs[2]? = some (.slice (some ⟨DB, 0, none⟩) (2 * n) (2 * n)) ∧ cs[6]? = some (.slice none 0 0) ∧ cs[8]? = some (.int .i64 0) ∧ cs[9]? = some (.int .i64 n) ∧ cs[10]? = some (.int .i64 (-1))
  data : ∃ cs, w.heap[DB]? = some (.cells cs 35 (0, 0)) ∧ ∀ i, i < n → cs[2 * i]? = some (.int .u32 (kd i)) ∧ cs[2 * i + 1]? = some (.int .u32 (vd i))
  args : w.heap[AB]? = some (.cells #[.int .i64 0, .bool true, .int .i64 0, .int .u32 0, .int .i64 1, .bool true, .int .i64 1, .int .u32 0] 51 (0, 0))
  len : n ≤ 1048576

theorem Scan.keep {w w' : World} {SB RL DB AB n : Nat} {kd vd : Nat → Nat} (h : Scan w SB RL DB AB n kd vd) {B : Nat} {S : Nat → Obj → Prop} (c : Ch B S w w') (h56 : ∀ k cs, ¬ S k (.cells cs 56 (0, 0))) (h46 : ∀ k cs, ¬ S k (.cells cs 46 (0, 0))) (h51 : ∀ k cs, ¬ S k (.cells cs 51 (0, 0))) (h35 : ∀ cs, ¬ S DB (.cells cs 35 (0, 0))) : Scan w' SB RL DB AB n kd vd := by
  obtain ⟨c1, a1, a2⟩ := h.step
  obtain ⟨c2, b1, b2⟩ := h.rel
  obtain ⟨c3, d1, d2⟩ := h.data
  exact ⟨⟨c1, c.keep a1 (h56 _ _), a2⟩, ⟨c2, c.keep b1 (h46 _ _), b2⟩, ⟨c3, c.keep d1 (h35 _), d2⟩, c.keep h.args (h51 _ _), h.len⟩

theorem Scan.below {w w' : World} {SB RL DB AB n : Nat} {kd vd : Nat → Nat} (h : Scan w SB RL DB AB n kd vd) (c : Below w.heap.size w w') : Scan w' SB RL DB AB n kd vd :=
  h.keep (Ch.of_below (B := 0) (S := fun _ _ => False) c) (by simp) (by simp) (by simp) (by simp)

set_option maxHeartbeats 400000 in
theorem rows_any {w : World} {SB RL DB AB n : Nat} {kd vd : Nat → Nat} (h : Scan w SB RL DB AB n kd vd) :
    Calls Ybaz.prog 38 #[.pointer (some ⟨SB, 0, none⟩), .int .u8 2] w fun e w' => e = .returned (.tuple #[.int .i64 0, .int .i64 n, .int .i64 (-1)]) ∧ ∃ q, w' = w.drewN q := by
  obtain ⟨c1, a1, _, a3, _⟩ := h.step
  obtain ⟨c2, b1, _, _, _, b8, b9, b10⟩ := h.rel
  have s3 : w.cell? ⟨SB, 3, none⟩ = some (.pointer (some ⟨RL, 0, none⟩)) := by rw [cell_blk a1]; exact a3
  have r8 : w.cell? ⟨RL, 8, none⟩ = some (.int .i64 0) := by rw [cell_blk b1]; exact b8
  have r9 : w.cell? ⟨RL, 9, none⟩ = some (.int .i64 n) := by rw [cell_blk b1]; exact b9
  have r10 : w.cell? ⟨RL, 10, none⟩ = some (.int .i64 (-1)) := by rw [cell_blk b1]; exact b10
  clear h a1 a3 b1 b8 b9 b10
  go_enter Ybaz.func38, Ybaz.ntmps38
  go_wp2
  go_quiet (fail)
  go_wp2
  go_ret3
  exact ⟨rfl, _, rfl⟩

set_option maxHeartbeats 400000 in
theorem first_any {w : World} {SB RL DB AB n : Nat} {kd vd : Nat → Nat} (h : Scan w SB RL DB AB n kd vd) (regs : Value) :
    Calls Ybaz.prog 24 #[.pointer (some ⟨SB, 0, none⟩), .int .u8 2, regs] w fun e w' => e = .returned (.int .i64 0) ∧ ∃ q, w' = w.drewN q := by
  have HR := hid' (rows_any h)
  obtain ⟨c1, a1, a0, _⟩ := h.step
  have s0 : w.cell? ⟨SB, 0, none⟩ = some (.int .u8 0) := by rw [cell_blk a1]; exact a0
  clear h a1 a0
  go_enter Ybaz.func24, Ybaz.ntmps24
  go_wp2_with (go_at_call 38; refine HR.out.mono ?_; rintro e w' ⟨rfl, q, rfl⟩)
  go_ret
  exact ⟨rfl, _, rfl⟩

set_option maxHeartbeats 400000 in
theorem more_any {w : World} {SB RL DB AB n : Nat} {kd vd : Nat → Nat} (h : Scan w SB RL DB AB n kd vd) (r : Int) (b : Bool) (hb : decide (r < (n : Int)) = b) :
    Calls Ybaz.prog 26 #[.pointer (some ⟨SB, 0, none⟩), .int .u8 2, .int .i64 r] w fun e w' => e = .returned (.bool b) ∧ ∃ q, w' = w.drewN q := by
  have HR := hid' (rows_any h)
  obtain ⟨c1, a1, a0, _⟩ := h.step
  have s0 : w.cell? ⟨SB, 0, none⟩ = some (.int .u8 0) := by rw [cell_blk a1]; exact a0
  clear h a1 a0
  go_enter Ybaz.func26, Ybaz.ntmps26
  go_wp2_with (go_at_call 38; refine HR.out.mono ?_; rintro e w' ⟨rfl, q, rfl⟩)
  go_ret
  exact ⟨rfl, _, rfl⟩

set_option maxHeartbeats 400000 in
theorem has_any {w : World} {SB RL DB AB n : Nat} {kd vd : Nat → Nat} (h : Scan w SB RL DB AB n kd vd) (r : Nat) :
    Calls Ybaz.prog 40 #[.pointer (some ⟨RL, 0, none⟩), .int .i64 r] w fun e w' => e = .returned (.bool true) ∧ w' = w := by
  obtain ⟨c2, b1, _, _, b6, _⟩ := h.rel
  have r6 : w.cell? ⟨RL, 6, none⟩ = some (.slice none 0 0) := by rw [cell_blk b1]; exact b6
  have h0 : decide ((0 : Int) ≤ (r : Int)) = true := decide_eq_true (by omega)
  clear h b1 b6
  go_enter Ybaz.func40, Ybaz.ntmps40
  go_wp2
  go_ret
  exact ⟨rfl, rfl⟩

theorem slice_two {x : Option Addr} {a b : Nat} (h : a = b) : Ending.returned (.slice x a a) = .returned (.slice x b b) := by rw [h]

set_option maxHeartbeats 400000 in
theorem row_any {w : World} {SB RL DB AB n : Nat} {kd vd : Nat → Nat} (h : Scan w SB RL DB AB n kd vd) (r : Nat) (hr : r < n) :
    Calls Ybaz.prog 44 #[.pointer (some ⟨RL, 0, none⟩), .int .i64 r] w fun e w' => e = .returned (.slice (some ⟨DB, r * 2, none⟩) 2 2) ∧ ∃ q, w' = w.drewN q := by
  obtain ⟨c2, b1, b1', b2, _⟩ := h.rel
  have r1 : w.cell? ⟨RL, 1, none⟩ = some (.int .i64 2) := by rw [cell_blk b1]; exact b1'
  have r2 : w.cell? ⟨RL, 2, none⟩ = some (.slice (some ⟨DB, 0, none⟩) (2 * n) (2 * n)) := by rw [cell_blk b1]; exact b2
  have hl := h.len
  clear h b1 b1' b2
  go_enter Ybaz.func44, Ybaz.ntmps44
  go_wp2
  go_quiet (fail)
  go_wp2
  go_ret
  exact ⟨slice_two (by omega), _, rfl⟩

/-- The registers' row. -/
def OnRegs (RB : Nat) (k : Nat) (o : Obj) : Prop := k = RB ∧ ∃ cs fr, o = .cells cs 35 fr

set_option maxHeartbeats 1000000 in
theorem match_any {w : World} {SB RL DB AB n : Nat} {kd vd : Nat → Nat} (h : Scan w SB RL DB AB n kd vd) (r : Nat) (hr : r < n) {B RB : Nat} {x0 x1 : Value} (hRB : w.heap[RB]? = some (.cells #[x0, x1] 35 (0, 0))) (hne : RB ≠ DB) (hB : B ≤ RB) :
    Calls Ybaz.prog 43 #[.pointer (some ⟨SB, 0, none⟩), .slice (some ⟨DB, r * 2, none⟩) 2 2, .slice (some ⟨RB, 0, none⟩) 2 2] w fun e w' => e = .returned (.bool true) ∧ w'.heap[RB]? = some (.cells #[.int .u32 (kd r), .int .u32 (vd r)] 35 (0, 0)) ∧ Ch B (OnRegs RB) w w' := by
  obtain ⟨c1, a1, _, _, a7⟩ := h.step
  obtain ⟨c3, d1, d2⟩ := h.data
  have s7 : w.cell? ⟨SB, 7, none⟩ = some (.slice (some ⟨AB, 0, none⟩) 2 2) := by rw [cell_blk a1]; exact a7
  have g0 : w.cell? ⟨DB, r * 2, none⟩ = some (.int .u32 (kd r)) := by rw [cell_blk d1, Nat.mul_comm]; exact (d2 r hr).1
  have g1 : w.cell? ⟨DB, r * 2 + 1, none⟩ = some (.int .u32 (vd r)) := by rw [cell_blk d1, Nat.mul_comm]; exact (d2 r hr).2
  have hA := h.args
  have p0 := cell_blk hA 0
  have p1 := cell_blk hA 1
  have p2 := cell_blk hA 2
  have p3 := cell_blk hA 3
  have p4 := cell_blk hA 4
  have p5 := cell_blk hA 5
  have p6 := cell_blk hA 6
  have p7 := cell_blk hA 7
  have q0 := cell_blk hRB 0
  have q1 := cell_blk hRB 1
  have f0 := free_blk hRB 0
  have f1 := free_blk hRB 1
  have lA := lt_blk hA
  have lD := lt_blk d1
  have lR := lt_blk hRB
  have neA := ne_blk hA hRB (by decide)
  have neS := ne_blk a1 hRB (by decide)
  have HRB := hid' hRB
  simp at p0 p1 p2 p3 p4 p5 p6 p7 q0 q1
  clear h a1 a7 d1 d2 hA hRB
  go_enter Ybaz.func43, Ybaz.ntmps43
  go_wp2
  refine wp_loop_rounds 3 ?_
  rw [rounds_succ]
  go_wp2
  go_region
  all_goals go_wp2
  all_goals rw [rounds_succ]
  all_goals go_wp2
  all_goals go_region
  all_goals go_wp2
  all_goals rw [rounds_succ]
  all_goals go_wp2
  all_goals go_ret
  all_goals
    have b1 := set_blk HRB.out 0 (.int .u32 (kd r))
    have b2 := set_blk b1 1 (.int .u32 (vd r))
    exact ⟨rfl, alloc_old _ (alloc_old _ b2), (((((Ch.refl B (OnRegs RB) w).setCell hB (fun x hx => by rw [HRB.out] at hx; cases hx; exact ⟨rfl, _, _, rfl⟩) _).setCell hB (fun x hx => by rw [b1] at hx; cases hx; exact ⟨rfl, _, _, rfl⟩) _).alloc _).alloc _).drew.drew⟩

/-- What 'next' may write: the registers, the row's cell, the machine's count. -/
def OnNext (RB rb M : Nat) (rt : TypeId) (k : Nat) (o : Obj) : Prop := OnRegs RB k o ∨ (k = rb ∧ ∃ cs fr, o = .cells cs rt fr) ∨ (k = M ∧ ∃ cs fr, o = .cells cs 31 fr)

set_option maxHeartbeats 1000000 in
theorem next_no {w : World} {SB RL DB AB n : Nat} {kd vd : Nat → Nat} (h : Scan w SB RL DB AB n kd vd) {rb ro : Nat} {regs : Value} {rd : Value} (hrow : w.cell? ⟨rb, ro, none⟩ = some (.int .i64 n)) :
    Calls Ybaz.prog 25 #[.pointer (some ⟨SB, 0, none⟩), .int .u8 2, .pointer (some ⟨rb, ro, none⟩), regs, rd] w fun e w' => e = .returned (.bool false) ∧ ∃ q, w' = w.drewN q := by
  have HR := hid' (rows_any h)
  obtain ⟨c1, a1, a0, _⟩ := h.step
  have s0 : w.cell? ⟨SB, 0, none⟩ = some (.int .u8 0) := by rw [cell_blk a1]; exact a0
  clear h a1 a0
  have hlt : ¬ (n : Int) < (n : Int) := by omega
  go_enter Ybaz.func25, Ybaz.ntmps25
  go_wp2_with (go_at_call 38; refine HR.out.mono ?_; rintro e w' ⟨rfl, q, rfl⟩)
  refine wp_loop_rounds 1 ?_
  rw [rounds_succ]
  go_wp2
  go_ret
  exact ⟨rfl, _, rfl⟩

set_option maxHeartbeats 1000000 in
theorem next_yes {w : World} {SB RL DB AB n : Nat} {kd vd : Nat → Nat} (h : Scan w SB RL DB AB n kd vd) (r : Nat) (hr : r < n) {B RB rb ro M : Nat} {x0 x1 : Value} {rcs mcs : Array Value} {rt : TypeId} {wk : Nat}
    (hRB : w.heap[RB]? = some (.cells #[x0, x1] 35 (0, 0))) (hne : RB ≠ DB) (hB : B ≤ RB) (hBr : B ≤ rb) (hBM : B ≤ M)
    (hrb : w.heap[rb]? = some (.cells rcs rt (0, 0))) (hrc : rcs[ro]? = some (.int .i64 r)) (hrt : rt = 3 ∨ rt = 109) (hM : w.heap[M]? = some (.cells mcs 31 (0, 0))) (hMc : mcs[10]? = some (.int .i64 wk)) (hwk : wk ≤ 10000000) :
    Calls Ybaz.prog 25 #[.pointer (some ⟨SB, 0, none⟩), .int .u8 2, .pointer (some ⟨rb, ro, none⟩), .slice (some ⟨RB, 0, none⟩) 2 2, .pointer (some ⟨M, 10, none⟩)] w fun e w' => e = .returned (.bool true) ∧
      w'.heap[RB]? = some (.cells #[.int .u32 (kd r), .int .u32 (vd r)] 35 (0, 0)) ∧ w'.heap[rb]? = some (.cells (rcs.setIfInBounds ro (.int .i64 (r + 1))) rt (0, 0)) ∧ w'.heap[M]? = some (.cells (mcs.setIfInBounds 10 (.int .i64 (wk + 1))) 31 (0, 0)) ∧ Ch B (OnNext RB rb M rt) w w' := by
  have HR := hid' (rows_any h)
  have Hh := hid' h
  obtain ⟨c1, a1, a0, a3, _⟩ := h.step
  have s0 : w.cell? ⟨SB, 0, none⟩ = some (.int .u8 0) := by rw [cell_blk a1]; exact a0
  have s3 : w.cell? ⟨SB, 3, none⟩ = some (.pointer (some ⟨RL, 0, none⟩)) := by rw [cell_blk a1]; exact a3
  have m10 : w.cell? ⟨M, 10, none⟩ = some (.int .i64 wk) := by rw [cell_blk hM]; exact hMc
  have fm := free_blk hM 10
  have r0 : w.cell? ⟨rb, ro, none⟩ = some (.int .i64 r) := by rw [cell_blk hrb]; exact hrc
  have hl := h.len
  have ne1 : M ≠ rb := ne_blk hM hrb (by rcases hrt with rfl | rfl <;> decide)
  have ne2 : M ≠ RB := ne_blk hM hRB (by decide)
  have ne3 : M ≠ SB := ne_blk hM a1 (by decide)
  have ne4 : rb ≠ RB := ne_blk hrb hRB (by rcases hrt with rfl | rfl <;> decide)
  have ne5 : rb ≠ SB := ne_blk hrb a1 (by rcases hrt with rfl | rfl <;> decide)
  have hlt : (r : Int) < (n : Int) := by omega
  have hneg : ((r : Int) != -1) = true := by rw [bne_iff_ne]; omega
  have HM := hid' hM
  have HRB := hid' hRB
  have Hrb := hid' hrb
  have Ha1 := hid' a1
  have Ha3 := hid' a3
  clear h a1 a0 a3 hM hRB hrb
  go_enter Ybaz.func25, Ybaz.ntmps25
  go_wp2_with (go_at_call 38; refine HR.out.mono ?_; rintro e w' ⟨rfl, q, rfl⟩)
  refine wp_loop_rounds 1 ?_
  rw [rounds_succ]
  go_wp2_with fail
  obtain ⟨Y, hY⟩ : ∃ Y, Y = (w.drewN q).setCell ⟨M, 10, none⟩ (.int .i64 ((wk : Int) + 1)) := ⟨_, rfl⟩
  rw [← hY]
  have cY : Ch B (OnNext RB rb M rt) w Y := by rw [hY]; exact ((Ch.refl _ _ _).drewN q).setCell hBM (fun x hx => by rw [show (w.drewN q).heap[M]? = _ from HM.out] at hx; cases hx; exact .inr (.inr ⟨rfl, _, _, rfl⟩)) _
  have bM : Y.heap[M]? = some (.cells (mcs.setIfInBounds 10 (.int .i64 (wk + 1))) 31 (0, 0)) := by rw [hY]; exact set_blk (show (w.drewN q).heap[M]? = _ from HM.out) 10 _
  have bRB : Y.heap[RB]? = some (.cells #[x0, x1] 35 (0, 0)) := by rw [hY, set_other ne2.symm]; exact HRB.out
  have brb : Y.heap[rb]? = some (.cells rcs rt (0, 0)) := by rw [hY, set_other ne1.symm]; exact Hrb.out
  have bS : Y.heap[SB]? = some (.cells c1 56 (0, 0)) := by rw [hY, set_other ne3.symm]; exact Ha1.out
  have sY : Scan Y SB RL DB AB n kd vd := by
    refine Hh.out.keep cY ?_ ?_ ?_ ?_
    · rintro k cs (⟨_, _, _, e⟩ | ⟨_, _, _, e⟩ | ⟨_, _, _, e⟩) <;> cases e; rcases hrt with h | h <;> cases h
    · rintro k cs (⟨_, _, _, e⟩ | ⟨_, _, _, e⟩ | ⟨_, _, _, e⟩) <;> cases e; rcases hrt with h | h <;> cases h
    · rintro k cs (⟨_, _, _, e⟩ | ⟨_, _, _, e⟩ | ⟨_, _, _, e⟩) <;> cases e; rcases hrt with h | h <;> cases h
    · rintro cs (⟨e, _⟩ | ⟨_, _, _, e⟩ | ⟨_, _, _, e⟩)
      · exact hne e.symm
      · cases e; rcases hrt with h | h <;> cases h
      · cases e
  have y3 : Y.cell? ⟨SB, 3, none⟩ = some (.pointer (some ⟨RL, 0, none⟩)) := by rw [cell_blk bS]; exact Ha3.out
  clear hY
  refine (has_any sY r).mono ?_
  rintro e w' ⟨rfl, hw⟩
  rw [hw]
  clear hw w'
  go_wp2_with fail
  refine (row_any sY r hr).mono ?_
  rintro e w' ⟨rfl, q2, rfl⟩
  go_wp2_with fail
  refine (match_any (sY.below (below_drewN (Below.refl _ _) q2)) r hr (B := B) (RB := RB) (x0 := x0) (x1 := x1) bRB hne hB).mono ?_
  rintro e w3 ⟨rfl, cRB, c3⟩
  have drb : w3.heap[rb]? = some (.cells rcs rt (0, 0)) := c3.keep (show (Y.drewN q2).heap[rb]? = _ from brb) (fun e => ne4 e.1)
  have dM : w3.heap[M]? = some (.cells (mcs.setIfInBounds 10 (.int .i64 (wk + 1))) 31 (0, 0)) := c3.keep (show (Y.drewN q2).heap[M]? = _ from bM) (fun e => ne2 e.1)
  have z1 : w3.cell? ⟨rb, ro, none⟩ = some (.int .i64 r) := by rw [cell_blk drb]; exact hrc
  have z2 := free_blk drb ro
  have HF := hid' (show (w3.setCell ⟨rb, ro, none⟩ (.int .i64 ((r : Int) + 1))).heap[RB]? = some (.cells #[.int .u32 (kd r), .int .u32 (vd r)] 35 (0, 0)) ∧ (w3.setCell ⟨rb, ro, none⟩ (.int .i64 ((r : Int) + 1))).heap[rb]? = some (.cells (rcs.setIfInBounds ro (.int .i64 (r + 1))) rt (0, 0)) ∧ (w3.setCell ⟨rb, ro, none⟩ (.int .i64 ((r : Int) + 1))).heap[M]? = some (.cells (mcs.setIfInBounds 10 (.int .i64 (wk + 1))) 31 (0, 0)) ∧ Ch B (OnNext RB rb M rt) w (w3.setCell ⟨rb, ro, none⟩ (.int .i64 ((r : Int) + 1))) from
    ⟨(set_other ne4.symm _ _).trans cRB, set_blk drb _ _, (set_other ne1 _ _).trans dM, ((cY.drewN q2).trans (c3.mono (fun k o _ _ h => .inl h))).setCell hBr (fun x hx => by rw [drb] at hx; cases hx; exact .inr (.inl ⟨rfl, _, _, rfl⟩)) _⟩)
  clear cY c3 sY bM bRB brb bS drb dM cRB
  go_wp2
  go_ret
  exact ⟨rfl, HF.out⟩

end Go.Proofs.YbulkeifqGreat
