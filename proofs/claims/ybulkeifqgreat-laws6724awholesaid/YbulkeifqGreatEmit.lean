/-
  THE CLOSURE 'emit' of the law (8): one tuple more.
-/
import Derived.Test.YbulkeifqGreatKey
import Derived.WalkKit
import Derived.WalkSpells
import Derived.WalkLawsBesides
import Derived.Deep.RegionLaw
import Derived.RegionTactic
import Derived.Deep.AppendLies
namespace Go.Proofs.YbulkeifqGreat
open Go.RowKit
set_option linter.unusedVariables false

/-- A tuple that was emitted: where its copy lies, and the two ids. -/
structure TR where
  g : Nat
  cap : Nat
  a : Nat
  b : Nat

def TR.val (t : TR) : Value := .slice (some ⟨t.g, 0, none⟩) 2 t.cap

/-- What 'emit' has gathered: the tuples Ts, c calls. -/
structure ESt (w : World) (GV CV SV E0 : Nat) (stop c : Int) (Ts : List TR) : Prop where
  got : ∃ gv, w.heap[GV]? = some (.cells #[gv] 75 (0, 0)) ∧ w.ownsRow E0 26 1 gv Ts.length (Ts.map TR.val)
  calls : w.heap[CV]? = some (.cells #[.int .i64 c] 3 (0, 0))
  stop : w.heap[SV]? = some (.cells #[.int .i64 stop] 3 (0, 0))
  ne : CV ≠ SV
  rows : ∀ t ∈ Ts, E0 ≤ t.g ∧ ∃ cs, w.heap[t.g]? = some (.cells cs 35 (0, 0)) ∧ cs[0]? = some (.int .u32 t.a) ∧ cs[1]? = some (.int .u32 t.b)
  low : GV < E0 ∧ CV < E0 ∧ SV < E0 ∧ E0 ≤ w.heap.size

def OnEm (GV CV E0 : Nat) (b : Nat) (o : Obj) : Prop := (b = GV ∧ ∃ cs fr, o = .cells cs 75 fr) ∨ (b = CV ∧ ∃ cs fr, o = .cells cs 3 fr) ∨ (E0 ≤ b ∧ ∃ cs fr, o = .cells cs 26 fr)

theorem info26 : (Ybaz.prog.info? 26).map (fun i => (i.zero, i.size, i.bytes)) = some (some (.slice none 0 0), 1, 24) := by kernel_rfl

theorem own_lt' {w : World} {b : Nat} {e : TypeId} {size : Nat} {g n cap : Nat} {xs : List Value} (h : w.ownsRow b e size (.slice (some ⟨g, 0, none⟩) n cap) n xs) : g < w.heap.size ∧ b ≤ g := by
  rcases h.2 with ⟨h', _⟩ | ⟨g', cap', cur, h', hb, hg, _⟩
  · simp at h'
  · simp only [Value.slice.injEq, Option.some.injEq, Addr.mk.injEq, and_true, true_and] at h'
    obtain ⟨rfl, _⟩ := h'
    exact ⟨lt_blk hg, hb⟩

theorem own_row {w : World} {B : Nat} {e : TypeId} {size : Nat} {v : Value} {n : Nat} {xs : List Value} (h : w.ownsRow B e size v n xs) : ∀ k, v.ownBlock = some k → B ≤ k ∧ ∃ cs, w.heap[k]? = some (.cells cs e (0, 0)) := by
  intro k hk
  rcases h.2 with ⟨rfl, _⟩ | ⟨g, cap, cur, rfl, hb, hg, _⟩
  · cases hk
  · cases hk
    exact ⟨hb, _, hg⟩

theorem emit_gv {w w9 w10 : World} {GV E0 n : Nat} {gv : Value} {o : Obj} {xs : List Value} (hG : w.heap[GV]? = some (.cells #[gv] 75 (0, 0))) (hown : w.ownsRow E0 26 1 gv n xs) (bel9 : Below w.heap.size w w9) (grow : (w9.alloc o).grownBy w10 gv.ownBlock) : w10.heap[GV]? = some (.cells #[gv] 75 (0, 0)) :=
  grown_keep grow (alloc_old _ ((bel9.block _ (lt_blk hG)).trans hG)) (fun k hk => by
    obtain ⟨_, cs, hcs⟩ := own_row hown k hk
    exact ⟨cs, 26, (0, 0), alloc_old _ ((bel9.block _ (lt_blk hcs)).trans hcs), by decide⟩)

/-- The tuple is gathered; the count is one more. -/
theorem emit_end {w w9 w10 : World} {GV CV SV E0 a b g9 cap9 g10 cap10 : Nat} {stop c : Int} {c' : Int} {Ts : List TR} {gv : Value} {o : Obj} (h : ESt w GV CV SV E0 stop c Ts) (hG : w.heap[GV]? = some (.cells #[gv] 75 (0, 0))) (hown : w.ownsRow E0 26 1 gv Ts.length (Ts.map TR.val)) (bel9 : Below w.heap.size w w9)
    (own9 : w9.ownsRow w.heap.size 35 1 (.slice (some ⟨g9, 0, none⟩) 2 cap9) 2 [.int .u32 a, .int .u32 b]) (grow : (w9.alloc o).grownBy w10 gv.ownBlock) (own10 : w10.ownsRow E0 26 1 (.slice (some ⟨g10, 0, none⟩) (Ts.length + 1) cap10) (Ts.length + 1) (Ts.map TR.val ++ [.slice (some ⟨g9, 0, none⟩) 2 cap9])) :
    (w10.setCell ⟨GV, 0, none⟩ (.slice (some ⟨g10, 0, none⟩) (Ts.length + 1) cap10)).heap[CV]? = some (.cells #[.int .i64 c] 3 (0, 0)) ∧ (w10.setCell ⟨GV, 0, none⟩ (.slice (some ⟨g10, 0, none⟩) (Ts.length + 1) cap10)).heap[SV]? = some (.cells #[.int .i64 stop] 3 (0, 0)) ∧
    ESt ((w10.setCell ⟨GV, 0, none⟩ (.slice (some ⟨g10, 0, none⟩) (Ts.length + 1) cap10)).setCell ⟨CV, 0, none⟩ (.int .i64 c')) GV CV SV E0 stop c' (Ts ++ [⟨g9, cap9, a, b⟩]) ∧ Ch 0 (OnEm GV CV E0) w ((w10.setCell ⟨GV, 0, none⟩ (.slice (some ⟨g10, 0, none⟩) (Ts.length + 1) cap10)).setCell ⟨CV, 0, none⟩ (.int .i64 c')) := by
  have h10 := emit_gv hG hown bel9 grow
  obtain ⟨l1, l2, l3, l4⟩ := h.low
  have c1 : Ch 0 (OnEm GV CV E0) w w9 := Ch.of_below bel9
  have c2 : Ch 0 (OnEm GV CV E0) (w9.alloc o) w10 := Ch.of_grown grow (fun k hk => ⟨Nat.zero_le _, fun x hx => by
    obtain ⟨hb, cs, hcs⟩ := own_row hown k hk
    have e : (w9.alloc o).heap[k]? = some (.cells cs 26 (0, 0)) := alloc_old _ ((bel9.block _ (lt_blk hcs)).trans hcs)
    rw [e] at hx
    cases hx
    exact .inr (.inr ⟨hb, _, _, rfl⟩)⟩)
  have c3 : Ch 0 (OnEm GV CV E0) w w10 := (c1.alloc _).trans c2
  have nC : ∀ {cs : Array Value} {fr : Nat × Nat} {k : Nat}, k ≠ CV → ¬ OnEm GV CV E0 k (.cells cs 3 fr) := by
    rintro cs fr k hk (⟨_, cs', fr', e⟩ | ⟨e, _⟩ | ⟨_, cs', fr', e⟩)
    · cases e
    · exact hk e
    · cases e
  have n35 : ∀ {cs : Array Value} {fr : Nat × Nat} {k : Nat}, ¬ OnEm GV CV E0 k (.cells cs 35 fr) := by
    rintro cs fr k (⟨_, cs', fr', e⟩ | ⟨_, cs', fr', e⟩ | ⟨_, cs', fr', e⟩) <;> cases e
  have hCV : w10.heap[CV]? = some (.cells #[.int .i64 c] 3 (0, 0)) := grown_keep grow (alloc_old _ ((bel9.block _ (lt_blk h.calls)).trans h.calls)) (fun k hk => by
    obtain ⟨_, cs, hcs⟩ := own_row hown k hk
    exact ⟨cs, 26, (0, 0), alloc_old _ ((bel9.block _ (lt_blk hcs)).trans hcs), by decide⟩)
  have hSV := c3.keep h.stop (nC (Ne.symm h.ne))
  have nGC : CV ≠ GV := ne_blk hCV h10 (by decide)
  have nGS : SV ≠ GV := ne_blk hSV h10 (by decide)
  have yC := (set_other (w := w10) nGC 0 (.slice (some ⟨g10, 0, none⟩) (Ts.length + 1) cap10)).trans hCV
  have yS := (set_other (w := w10) nGS 0 (.slice (some ⟨g10, 0, none⟩) (Ts.length + 1) cap10)).trans hSV
  have yG : (w10.setCell ⟨GV, 0, none⟩ (.slice (some ⟨g10, 0, none⟩) (Ts.length + 1) cap10)).heap[GV]? = some (.cells #[.slice (some ⟨g10, 0, none⟩) (Ts.length + 1) cap10] 75 (0, 0)) := by rw [set_blk h10]; rfl
  have c4 : Ch 0 (OnEm GV CV E0) w (w10.setCell ⟨GV, 0, none⟩ (.slice (some ⟨g10, 0, none⟩) (Ts.length + 1) cap10)) := c3.setCell (Nat.zero_le _) (fun x hx => by rw [h10] at hx; cases hx; exact .inl ⟨rfl, _, _, rfl⟩) _
  have c5 : Ch 0 (OnEm GV CV E0) w ((w10.setCell ⟨GV, 0, none⟩ (.slice (some ⟨g10, 0, none⟩) (Ts.length + 1) cap10)).setCell ⟨CV, 0, none⟩ (.int .i64 c')) := c4.setCell (Nat.zero_le _) (fun x hx => by rw [yC] at hx; cases hx; exact .inr (.inl ⟨rfl, _, _, rfl⟩)) _
  refine ⟨yC, yS, ⟨⟨_, (set_other (Ne.symm nGC) _ _).trans yG, ?_⟩, ?_, (set_other (Ne.symm h.ne) _ _).trans yS, h.ne, ?_, ⟨l1, l2, l3, Nat.le_trans l4 c5.size⟩⟩, c5⟩
  · have := setCell_row (setCell_row own10 h10 (by decide) (.slice (some ⟨g10, 0, none⟩) (Ts.length + 1) cap10) (o := 0)) yC (by decide) (.int .i64 c') (o := 0)
    simpa [TR.val] using this
  · rw [set_blk yC]
    rfl
  · intro t ht
    simp at ht
    rcases ht with ht | rfl
    · obtain ⟨q1, cs, q2, q3⟩ := h.rows t ht
      exact ⟨q1, cs, c5.keep q2 n35, q3⟩
    · obtain ⟨hl, hg⟩ := own_lt' own9
      obtain ⟨cs, hcs⟩ := (own_row own9 g9 rfl).2
      have d0 := own9.cellAt 0 (by omega)
      have d1 := own9.cellAt 1 (by omega)
      rw [cell_blk hcs] at d0 d1
      refine ⟨by simp; omega, cs, ?_, by simpa using d0, by simpa using d1⟩
      have e1 : w10.heap[g9]? = some (.cells cs 35 (0, 0)) := c2.keep (alloc_old _ hcs) n35
      have e2 : g9 ≠ GV := ne_blk e1 h10 (by decide)
      have e3 : g9 ≠ CV := ne_blk e1 hCV (by decide)
      exact (set_other e3 _ _).trans ((set_other e2 _ _).trans e1)

set_option maxRecDepth 100000 in
set_option maxHeartbeats 1000000 in
theorem emit_any {w : World} {GV CV SV E0 hb hc a b : Nat} {stop c : Nat} {Ts : List TR} (h : ESt w GV CV SV E0 stop c Ts) (h0 : w.cell? ⟨hb, 0, none⟩ = some (.int .u32 a)) (h1 : w.cell? ⟨hb, 1, none⟩ = some (.int .u32 b)) (hc0 : c ≤ 2000000) (hs : stop ≤ 255) (hT : Ts.length ≤ 2000000) :
    Calls Ybaz.prog 8 #[.slice (some ⟨hb, 0, none⟩) 2 hc, .pointer (some ⟨GV, 0, none⟩), .pointer (some ⟨CV, 0, none⟩), .pointer (some ⟨SV, 0, none⟩)] w fun e w' => e = .returned (.bool ((c : Int) != (stop : Int))) ∧ (∃ g cap, ESt w' GV CV SV E0 stop ((c + 1 : Nat) : Int) (Ts ++ [⟨g, cap, a, b⟩])) ∧ Ch 0 (OnEm GV CV E0) w w' := by
  obtain ⟨gv, hG, hown⟩ := h.got
  obtain ⟨ao, n, rfl, hcap, hao⟩ := ownsRow_shape hown
  obtain ⟨i0, hi0, hz0, hz1, hz2⟩ := info_parts info26
  have c0 : w.cell? ⟨GV, 0, none⟩ = some (.slice ao Ts.length n) := by rw [cell_blk hG]; rfl
  have lG := lt_blk hG
  have H := hid' (And.intro h hG)
  have Hown := hid' hown
  clear h hG hao
  go_enter Ybaz.func8, Ybaz.ntmps8
  go_wp2
  go_region_law (first | (go_simp; go_at_call 9; refine (clone_two (w := w.drew) (x0 := .int .u32 a) (x1 := .int .u32 b) h0 h1 rfl rfl).mono ?_; rintro e w9 ⟨g9, cap9, rfl, own9, bel9d⟩; have bel9 : Below w.heap.size w w9 := ((Below.refl _ w).drew).trans bel9d; have cG9 := cell_later bel9 c0; have lG9 : GV < w9.heap.size := Nat.lt_of_lt_of_le lG bel9.size; clear bel9d) | (refine step_append_lies _ (by rfl) _ _ 75 (by rfl) E0 26 i0 (.slice none 0 0) 1 24 Ybaz.underlying75 hi0 hz0 hz1 hz2 rfl (by decide) _ Ts.length (Ts.map TR.val) (by rfl) ((Fr.ownsRow (Fr.of_below (B := 0) (D := []) (T := []) bel9) Hown.out (by simp) (by simp)).alloc _) ⟨w9.heap.size, 0, none⟩ 1 1 [.slice (some ⟨g9, 0, none⟩) 2 cap9] (by rfl) rfl (World.news_of_block (heap_alloc_new _ _)) (by simp [Value.oneCell']) (by omega) (by unfold maxLen; omega) (by omega) (by have := H.out.1.low.2.2.2; have := bel9.size; simp; omega) (w9.heap.size + 1) (by simp) ?_; intro g10 cap10 w10 own10 grow10 hat10 hlt10; have h10 := emit_gv H.out.2 Hown.out bel9 grow10; have q10 := cell_blk h10 0; have f10 := free_blk h10 0; simp at q10; clear h10))
  all_goals
    obtain ⟨yC, yS, yE, yCh⟩ := emit_end (c' := ((c + 1 : Nat) : Int)) H.out.1 H.out.2 Hown.out bel9 own9 grow10 own10
    clear own10 grow10 hat10 hlt10 own9 bel9 q10 f10
    obtain ⟨Y, hY⟩ : ∃ Y, Y = w10.setCell ⟨GV, 0, none⟩ (.slice (some ⟨g10, 0, none⟩) (Ts.length + 1) cap10) := ⟨_, rfl⟩
    rw [← hY] at yC yS yE yCh ⊢
    clear hY
    have y0 : Y.cell? ⟨CV, 0, none⟩ = some (.int .i64 c) := by rw [cell_blk yC]; rfl
    have yf := free_blk yC 0
    have y1 : Y.cell? ⟨SV, 0, none⟩ = some (.int .i64 stop) := by rw [cell_blk yS]; rfl
    have HE := hid' (And.intro yE yCh)
    have hne := H.out.1.ne
    clear yC yS yE yCh
    go_wp2
    go_ret
    exact ⟨rfl, ⟨g9, cap9, HE.out.1⟩, HE.out.2⟩
end Go.Proofs.YbulkeifqGreat
