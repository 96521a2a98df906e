/-
  A GROUP IN MEMORY, and what 'add' (17) makes of it.
-/
import Derived.Test.YbulkeifqGreatAddMore
namespace Go.Proofs.YbulkeifqGreat
open Go.RowKit Go.Maps
set_option linter.unusedVariables false

/-- What a group's blocks are made of. -/
def GTag (o : Obj) : Prop := (∃ cs t fr, o = .cells cs t fr ∧ (t = 117 ∨ t = 119 ∨ t = 35)) ∨ ∃ es c, o = .map es c

theorem gt117 {cs : Array Value} {fr : Nat × Nat} : GTag (.cells cs 117 fr) := .inl ⟨_, _, _, rfl, .inl rfl⟩
theorem gt119 {cs : Array Value} {fr : Nat × Nat} : GTag (.cells cs 119 fr) := .inl ⟨_, _, _, rfl, .inr (.inl rfl)⟩
theorem gt35 {cs : Array Value} {fr : Nat × Nat} : GTag (.cells cs 35 fr) := .inl ⟨_, _, _, rfl, .inr (.inr rfl)⟩
theorem gtMap {es : Array MapEntry} {c : Nat} : GTag (.map es c) := .inr ⟨_, _, rfl⟩

/-- Blocks of the group that lies from lo on, below hi, may have turned. -/
def OnGrp (lo hi : Nat) (k : Nat) (o : Obj) : Prop := lo ≤ k ∧ k < hi ∧ GTag o

/-- The group at block gb, whose blocks lie from lo on, below hi: its key's id k0, the ids xs that it has taken, in order. -/
def Grp (w : World) (lo hi : Nat) (op rg : Int) (vs : List Int) (gb k0 : Nat) (xs : List Nat) : Prop :=
  ∃ (hb hc sb bb : Nat) (k1 : Int) (sm : Value) (bs : Nat),
    w.heap[gb]? = some (.cells #[.slice (some ⟨hb, 0, none⟩) 2 hc, .int .i64 xs.length, .slice (some ⟨sb, 0, none⟩) 1 1, .slice (some ⟨bb, 0, none⟩) 1 1, .slice none 0 0] 117 (0, 0)) ∧
    w.ownsRow lo 35 1 (.slice (some ⟨hb, 0, none⟩) 2 hc) 2 [.int .u32 k0, .int .u32 k1] ∧ w.heap[sb]? = some (.cells #[sm] 119 (0, 0)) ∧ w.heap[bb]? = some (.cells #[.int .u32 bs] 35 (0, 0)) ∧
    hb ≠ bb ∧ (lo ≤ gb ∧ gb < hi ∧ hb < hi ∧ lo ≤ sb ∧ sb < hi ∧ lo ≤ bb ∧ bb < hi) ∧
    (op = 0 → rg = 1 → (xs = [] ∧ sm = .map none) ∨ ∃ mb D, sm = .map (some mb) ∧ lo ≤ mb ∧ mb < hi ∧ w.ownsMap Ybaz.prog 35 (plainElem Ybaz.prog 3) mb xs.length D ∧ SeenD D xs) ∧
    (op = 1 ∨ op = 2 → xs ≠ [] → bs ∈ xs ∧ ∀ x ∈ xs, befB op (vs.getD x 0) (vs.getD bs 0) = false)

theorem Grp.hi {w : World} {lo hi hi' : Nat} {op rg : Int} {vs : List Int} {gb k0 : Nat} {xs : List Nat} (h : Grp w lo hi op rg vs gb k0 xs) (hh : hi ≤ hi') : Grp w lo hi' op rg vs gb k0 xs := by
  obtain ⟨hb, hc, sb, bb, k1, sm, bs, h1, h2, h3, h4, h5, ⟨a1, a2, a3, a4, a5, a6, a7⟩, h7, h8⟩ := h
  refine ⟨hb, hc, sb, bb, k1, sm, bs, h1, h2, h3, h4, h5, by omega, fun e1 e2 => ?_, h8⟩
  rcases h7 e1 e2 with h | ⟨mb, D, q1, q2, q3, q4⟩
  · exact .inl h
  · exact .inr ⟨mb, D, q1, q2, by omega, q4⟩

theorem Grp.lt {w : World} {lo hi : Nat} {op rg : Int} {vs : List Int} {gb k0 : Nat} {xs : List Nat} (h : Grp w lo hi op rg vs gb k0 xs) : lo ≤ gb ∧ gb < hi ∧ gb < w.heap.size := by
  obtain ⟨hb, hc, sb, bb, k1, sm, bs, h1, h2, h3, h4, h5, ⟨a1, a2, a3, a4, a5, a6, a7⟩, h7, h8⟩ := h
  exact ⟨a1, a2, lt_blk h1⟩

theorem Grp.keep {w w' : World} {lo hi : Nat} {op rg : Int} {vs : List Int} {gb k0 : Nat} {xs : List Nat} (h : Grp w lo hi op rg vs gb k0 xs) {B : Nat} {S : Nat → Obj → Prop} (c : Ch B S w w') (hs : ∀ k o, lo ≤ k → k < hi → GTag o → ¬ S k o) : Grp w' lo hi op rg vs gb k0 xs := by
  obtain ⟨hb, hc, sb, bb, k1, sm, bs, h1, h2, h3, h4, h5, ⟨a1, a2, a3, a4, a5, a6, a7⟩, h7, h8⟩ := h
  have hbl := own_lt h2
  refine ⟨hb, hc, sb, bb, k1, sm, bs, c.keep h1 (hs _ _ a1 a2 gt117), c.ownsRow h2 (fun k cs hk => ?_), c.keep h3 (hs _ _ a4 a5 gt119), c.keep h4 (hs _ _ a6 a7 gt35), h5, ⟨a1, a2, a3, a4, a5, a6, a7⟩, fun e1 e2 => ?_, h8⟩
  · cases hk; exact hs _ _ hbl.2 a3 gt35
  · rcases h7 e1 e2 with h | ⟨mb, D, q1, q2, q3, q4, q5⟩
    · exact .inl h
    · exact .inr ⟨mb, D, q1, q2, q3, c.ownsMap q4 (fun es ck => hs _ _ q2 q3 gtMap), q5⟩

theorem best_step {op : Int} {vs : List Int} {xs : List Nat} {v bs : Nat} (hop : op = 1 ∨ op = 2) (h : bs ∈ xs ∧ ∀ x ∈ xs, befB op (vs.getD x 0) (vs.getD bs 0) = false) :
    (if befB op (vs.getD v 0) (vs.getD bs 0) then v else bs) ∈ xs ++ [v] ∧ ∀ x ∈ xs ++ [v], befB op (vs.getD x 0) (vs.getD (if befB op (vs.getD v 0) (vs.getD bs 0) then v else bs) 0) = false := by
  by_cases hb : befB op (vs.getD v 0) (vs.getD bs 0) = true
  · rw [if_pos hb]
    refine ⟨by simp, fun x hx => ?_⟩
    rcases List.mem_append.1 hx with hx | hx
    · have := h.2 x hx
      rcases hop with rfl | rfl
      · simp [befB] at this hb ⊢; omega
      · simp [befB] at this hb ⊢; omega
    · simp at hx; subst hx
      rcases hop with rfl | rfl <;> simp [befB]
  · rw [if_neg hb]
    refine ⟨by simp [h.1], fun x hx => ?_⟩
    rcases List.mem_append.1 hx with hx | hx
    · exact h.2 x hx
    · simp at hx; subst hx
      simpa using hb

theorem own_blk {w : World} {b : Nat} {e : TypeId} {size g n cap : Nat} {xs : List Value} (h : w.ownsRow b e size (.slice (some ⟨g, 0, none⟩) n cap) n xs) : ∃ cs, w.heap[g]? = some (.cells cs e (0, 0)) := by
  obtain ⟨ao, c, he, _, hx⟩ := ownsRow_shape h
  obtain ⟨_, cs, h6⟩ := hx _ (by cases he; rfl)
  exact ⟨cs, h6⟩

/-- The aggregate's three kinds. -/
def Mode (op rg : Int) : Prop := (op = 0 ∧ rg = -1) ∨ (op = 0 ∧ rg = 1) ∨ ((op = 1 ∨ op = 2) ∧ rg = 1)

theorem add_any {w : World} {lo hi B M I GB RB gb k0 v : Nat} {op rg : Int} {vs : List Int} {xs : List Nat} {cur x0 : Value} {work : Int} (hmd : Mode op rg) (hG : Grp w lo hi op rg vs gb k0 xs) (hM : Mach w B M I vs cur work) (hB : B ≤ lo)
    (hGB : w.heap[GB]? = some (.cells #[.int .i64 1, .int .u8 op, .int .i64 rg] 59 (0, 0))) (hRB : w.heap[RB]? = some (.cells #[x0, .int .u32 v] 35 (0, 0))) (hv : v < vs.length) (hxs : ∀ x ∈ xs, x < vs.length) (hxl : xs.length ≤ 2000000) (hhi : hi ≤ w.heap.size) :
    Calls Ybaz.prog 17 #[.pointer (some ⟨gb, 0, none⟩), .pointer (some ⟨M, 0, none⟩), .slice (some ⟨GB, 0, none⟩) 1 1, .slice (some ⟨RB, 0, none⟩) 2 2, .int .i64 1] w fun e w' => e = .returned (.tuple #[]) ∧
      ∃ hi', hi ≤ hi' ∧ hi' ≤ w'.heap.size ∧ (xs ≠ [] → hi' = hi) ∧ Grp w' lo hi' op rg vs gb k0 (xs ++ [v]) ∧ Ch 0 (OnGrp lo hi) w w' := by
  have hml := hM.len
  have c1 : w.cell? ⟨RB, 1, none⟩ = some (.int .u32 v) := by rw [cell_blk hRB]; rfl
  have lRB := lt_blk hRB
  obtain ⟨hb, hc, sb, bb, k1, sm, bs, h1, h2, h3, h4, h5, ⟨a1, a2, a3, a4, a5, a6, a7⟩, h7, h8⟩ := hG
  have hbl := own_lt h2
  have hRg : RB ≠ gb := ne_blk hRB h1 (by decide)
  obtain ⟨hcs, hhb⟩ := own_blk h2
  have ne1 : sb ≠ gb := ne_blk h3 h1 (by decide)
  have ne2 : bb ≠ gb := ne_blk h4 h1 (by decide)
  have ne3 : bb ≠ sb := ne_blk h4 h3 (by decide)
  have nhg : hb ≠ gb := ne_blk hhb h1 (by decide)
  have nhs : hb ≠ sb := ne_blk hhb h3 (by decide)
  rcases hmd with ⟨rfl, rfl⟩ | ⟨rfl, rfl⟩ | ⟨hop, rfl⟩
  · refine (add_star (by omega) h1 hGB).mono ?_
    rintro e w' ⟨rfl, g1, gC⟩
    have cC : Ch 0 (OnGrp lo hi) w w' := gC.mono (fun k o hk _ hs => by cases hs; rw [h1] at hk; cases hk; exact ⟨a1, a2, gt117⟩)
    refine ⟨rfl, hi, Nat.le_refl _, Nat.le_trans hhi gC.size, fun _ => rfl, ⟨hb, hc, sb, bb, k1, sm, bs, by simpa using g1, gC.ownsRow h2 (fun k cs hk => ?_), gC.keep h3 ne1, gC.keep h4 ne2, h5, ⟨a1, a2, a3, a4, a5, a6, a7⟩, fun _ h => absurd h (by decide), fun h => absurd h (by decide)⟩, cC⟩
    cases hk
    exact nhg
  · rcases h7 rfl rfl with ⟨rfl, rfl⟩ | ⟨mb, D, rfl, q2, q3, q4, q5⟩
    · refine (add_cnt_new (by simp) (by omega) h1 hGB c1 hRg lRB h3).mono ?_
      rintro e w' ⟨rfl, g1, ⟨mb, D', g2, g3, g4, g5⟩, gC⟩
      have cC : Ch 0 (OnGrp lo hi) w w' := gC.mono (fun k o hk _ hs => by
        rcases hs with rfl | rfl
        · rw [h1] at hk; cases hk; exact ⟨a1, a2, gt117⟩
        · rw [h3] at hk; cases hk; exact ⟨a4, a5, gt119⟩)
      have hmb := g4.lt
      refine ⟨rfl, w'.heap.size, Nat.le_trans hhi gC.size, Nat.le_refl _, fun h => absurd rfl h, ⟨hb, hc, sb, bb, k1, _, bs, by simpa using g1, gC.ownsRow h2 (fun k cs hk => ?_), g2, gC.keep h4 (by simp [ne2, ne3]), h5, ?_, fun _ _ => .inr ⟨mb, D', rfl, by omega, hmb, by simpa using g4, by simpa using g5⟩, fun h => absurd h (by decide)⟩, cC⟩
      · cases hk
        simp [nhg, nhs]
      · have := gC.size
        omega
    · refine (add_cnt_core (N := xs.length) (by omega) (by omega) (by omega) (by omega) h1 hGB c1 hRg lRB h3 q4 q5).mono ?_
      rintro e w' ⟨rfl, g1, g2, ⟨D', g4, g5⟩, gC⟩
      obtain ⟨es, ck, hmb, _⟩ := q4
      have cC : Ch 0 (OnGrp lo hi) w w' := gC.mono (fun k o hk _ hs => by
        rcases hs with rfl | rfl
        · rw [h1] at hk; cases hk; exact ⟨a1, a2, gt117⟩
        · rw [hmb] at hk; cases hk; exact ⟨q2, q3, gtMap⟩)
      refine ⟨rfl, hi, Nat.le_refl _, Nat.le_trans hhi gC.size, fun _ => rfl, ⟨hb, hc, sb, bb, k1, _, bs, by simpa using g1, gC.ownsRow h2 (fun k cs hk => ?_), g2, gC.keep h4 (by have := ne_map h4 hmb; simp [ne2, this]), h5, ⟨a1, a2, a3, a4, a5, a6, a7⟩, fun _ _ => .inr ⟨mb, D', rfl, q2, q3, by simpa using g4, g5⟩, fun h => absurd h (by decide)⟩, cC⟩
      cases hk
      have := ne_map hhb hmb
      simp [nhg, this]
  · have h0 : ¬ op = 0 := by rcases hop with rfl | rfl <;> omega
    by_cases hx0 : xs = []
    · subst hx0
      refine (add_first (v := v) (GB := GB) (RB := RB) (mp := .pointer (some ⟨M, 0, none⟩)) hop h1 hGB c1 hRg lRB h4).mono ?_
      rintro e w' ⟨rfl, g1, g2, gC⟩
      have cC : Ch 0 (OnGrp lo hi) w w' := gC.mono (fun k o hk _ hs => by
        rcases hs with rfl | rfl
        · rw [h1] at hk; cases hk; exact ⟨a1, a2, gt117⟩
        · rw [h4] at hk; cases hk; exact ⟨a6, a7, gt35⟩)
      refine ⟨rfl, hi, Nat.le_refl _, Nat.le_trans hhi gC.size, fun _ => rfl, ⟨hb, hc, sb, bb, k1, sm, v, by simpa using g1, gC.ownsRow h2 (fun k cs hk => ?_), gC.keep h3 (by simp [ne1, Ne.symm ne3]), g2, h5, ⟨a1, a2, a3, a4, a5, a6, a7⟩, fun h => absurd h h0, fun _ _ => ⟨by simp, fun x hx => ?_⟩⟩, cC⟩
      · cases hk
        simp [nhg, h5]
      · simp at hx; subst hx
        rcases hop with rfl | rfl <;> simp [befB]
    · have h8' := h8 hop hx0
      have hxl0 : 0 < xs.length := List.length_pos_iff.2 hx0
      refine (add_more (bs := bs) hop hxl0 (by omega) hM (by omega) hv (hxs _ h8'.1) h1 hGB c1 hRg lRB h4).mono ?_
      rintro e w' ⟨rfl, g1, g2, gC⟩
      have cC : Ch 0 (OnGrp lo hi) w w' := gC.mono (fun k o hk _ hs => by
        rcases hs with rfl | rfl
        · rw [h1] at hk; cases hk; exact ⟨a1, a2, gt117⟩
        · rw [h4] at hk; cases hk; exact ⟨a6, a7, gt35⟩)
      refine ⟨rfl, hi, Nat.le_refl _, Nat.le_trans hhi gC.size, fun _ => rfl, ⟨hb, hc, sb, bb, k1, sm, _, by simpa using g1, gC.ownsRow h2 (fun k cs hk => ?_), gC.keep h3 (by simp [ne1, Ne.symm ne3]), g2, h5, ⟨a1, a2, a3, a4, a5, a6, a7⟩, fun h => absurd h h0, fun _ _ => best_step hop h8'⟩, cC⟩
      cases hk
      simp [nhg, h5]
end Go.Proofs.YbulkeifqGreat
