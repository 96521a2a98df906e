/-
  'exec' (12): the state that its rounds hand on. No walk.
-/
import Derived.Test.YbulkeifqGreatFoundLaws
import Derived.Test.YbulkeifqGreatScan
namespace Go.Proofs.YbulkeifqGreat
open Go.RowKit Go.Maps
set_option linter.unusedVariables false

/-- The groups of the first q rows. -/
def gath (kd vd : Nat → Nat) : Nat → List (Nat × List Nat)
  | 0 => []
  | q + 1 => ins (kd q) (vd q) (gath kd vd q)

/-- What 'exec' may turn. -/
def OnX (KB v3 v6 GM G0 RB M : Nat) (b : Nat) (o : Obj) : Prop := OnC KB v3 v6 GM G0 b o ∨ (b = RB ∧ Tg 35 o) ∨ (b = M ∧ Tg 31 o) ∨ (G0 ≤ b ∧ (Tg 109 o ∨ Tg 3 o))

/-- The state in which q rows have been found; the registers hold k, v. -/
structure XSt (w : World) (SB RL DB AB n : Nat) (kd vd : Nat → Nat) (v0 v1 v2 v3 v4 v5 v6 RU HB GB RB KB GM M I G0 B PB : Nat) (op rg : Int) (vs : List Int) (cur : Value) (work : Int) (q k v : Nat) (L : List GR) : Prop where
  scan : Scan w SB RL DB AB n kd vd
  cf : CF w v0 v1 v2 v4 v5 RU HB GB RB KB GM M op rg k v
  ast : ASt w v3 v6 KB GM G0 op rg vs q L
  mach : Mach w B M I vs cur work
  view : L.map (fun g => (g.k, g.xs)) = gath kd vd q
  plan : w.heap[PB]? = some (.cells #[.int .u32 2] 72 (0, 0))
  low : DB < G0 ∧ RB < G0 ∧ M < G0 ∧ I < G0 ∧ B ≤ RB ∧ B ≤ M ∧ B ≤ G0 ∧ DB ≠ KB ∧ RB ≠ DB ∧ I ≠ GM

theorem notC {KB v3 v6 GM G0 b : Nat} {cs : Array Value} {t : TypeId} {fr : Nat × Nat} (h1 : t ≠ 35) (h2 : t ≠ 79) (h3 : t ≠ 89) (h4 : t ≠ 5) (h5 : t ≠ 93) (h6 : t ≠ 117) (h7 : t ≠ 119) : ¬ OnC KB v3 v6 GM G0 b (.cells cs t fr) := by
  rintro (⟨_, cs', fr', e⟩ | ⟨_, cs', fr', e⟩ | ⟨_, cs', fr', e⟩ | ⟨_, es, c, e⟩ | ⟨_, ⟨cs', fr', e⟩ | ⟨cs', fr', e⟩ | ⟨cs', t', fr', e, ht⟩ | ⟨es, c, e⟩⟩)
  · cases e; exact h1 rfl
  · cases e; exact h2 rfl
  · cases e; exact h3 rfl
  · cases e
  · cases e; exact h4 rfl
  · cases e; exact h5 rfl
  · cases e; rcases ht with ht | ht | ht
    · exact h6 ht
    · exact h7 ht
    · exact h1 ht
  · cases e

theorem notC_lt {KB v3 v6 GM G0 b : Nat} {cs : Array Value} {fr : Nat × Nat} (hb : b < G0) (h1 : b ≠ KB) : ¬ OnC KB v3 v6 GM G0 b (.cells cs 35 fr) := by
  rintro (⟨e, _⟩ | ⟨_, cs', fr', e⟩ | ⟨_, cs', fr', e⟩ | ⟨_, es, c, e⟩ | ⟨h, _⟩)
  · exact h1 e
  · cases e
  · cases e
  · cases e
  · omega

theorem notC_map {KB v3 v6 GM G0 b : Nat} {es : Array MapEntry} {ck : Nat} (hb : b < G0) (h1 : b ≠ GM) : ¬ OnC KB v3 v6 GM G0 b (.map es ck) := by
  rintro (⟨_, cs', fr', e⟩ | ⟨_, cs', fr', e⟩ | ⟨_, cs', fr', e⟩ | ⟨e, _⟩ | ⟨h, _⟩)
  · cases e
  · cases e
  · cases e
  · exact h1 e
  · omega

/-- 'found' has run: one row more. -/
theorem XSt.found {w w' : World} {SB RL DB AB n : Nat} {kd vd : Nat → Nat} {v0 v1 v2 v3 v4 v5 v6 RU HB GB RB KB GM M I G0 B PB : Nat} {op rg : Int} {vs : List Int} {cur : Value} {work : Int} {q : Nat} {L : List GR}
    (h : XSt w SB RL DB AB n kd vd v0 v1 v2 v3 v4 v5 v6 RU HB GB RB KB GM M I G0 B PB op rg vs cur work q (kd q) (vd q) L) {L' : List GR} (hA : ASt w' v3 v6 KB GM G0 op rg vs (q + 1) L') (hL : L'.map (fun g => (g.k, g.xs)) = ins (kd q) (vd q) (L.map (fun g => (g.k, g.xs)))) (c : Ch 0 (OnC KB v3 v6 GM G0) w w') :
    XSt w' SB RL DB AB n kd vd v0 v1 v2 v3 v4 v5 v6 RU HB GB RB KB GM M I G0 B PB op rg vs cur work (q + 1) (kd q) (vd q) L' := by
  obtain ⟨l1, l2, l3, l4, l5, l6, l7, l8, l9, l10⟩ := h.low
  refine ⟨h.scan.keep c (fun k cs => notC (by decide) (by decide) (by decide) (by decide) (by decide) (by decide) (by decide)) (fun k cs => notC (by decide) (by decide) (by decide) (by decide) (by decide) (by decide) (by decide)) (fun k cs => notC (by decide) (by decide) (by decide) (by decide) (by decide) (by decide) (by decide)) (fun cs => notC_lt l1 l8), h.cf.keep c (fun b cs t ht _ => ?_) (fun cs => notC_lt l2 h.cf.ne), hA, h.mach.ch c (fun cs => notC (by decide) (by decide) (by decide) (by decide) (by decide) (by decide) (by decide)) (fun b cs => notC (by decide) (by decide) (by decide) (by decide) (by decide) (by decide) (by decide)) (fun es ck => notC_map l4 l10), ?_, c.keep h.plan (notC (by decide) (by decide) (by decide) (by decide) (by decide) (by decide) (by decide)), h.low⟩
  · refine notC ?_ ?_ ?_ ?_ ?_ ?_ ?_ <;> (rintro rfl; simp at ht)
  · rw [hL, h.view]
    rfl

theorem ASt.ch {w w' : World} {v3 v6 KB GM G0 N : Nat} {op rg : Int} {vs : List Int} {L : List GR} (h : ASt w v3 v6 KB GM G0 op rg vs N L) {S : Nat → Obj → Prop} (c : Ch 0 S w w') (h35 : ∀ cs, ¬ S KB (.cells cs 35 (0, 0))) (h79 : ∀ b cs, ¬ S b (.cells cs 79 (0, 0))) (h5 : ∀ b cs, ¬ S b (.cells cs 5 (0, 0))) (h89 : ∀ b cs, ¬ S b (.cells cs 89 (0, 0)))
    (h93 : ∀ b cs, ¬ S b (.cells cs 93 (0, 0))) (hm : ∀ es ck, ¬ S GM (.map es ck)) (hg : ∀ b o, G0 ≤ b → GTag o → ¬ S b o) : ASt w' v3 v6 KB GM G0 op rg vs N L := by
  obtain ⟨x0, x1, a1⟩ := h.kb
  obtain ⟨ao, n, cap, xs, a2, a3, a4⟩ := h.by3
  obtain ⟨ov, a5, a6⟩ := h.ord
  obtain ⟨D, a7, a8⟩ := h.map
  obtain ⟨top, a9, a10⟩ := h.grps
  obtain ⟨b1, b2, b3, b4, b5⟩ := h.low
  exact ⟨⟨x0, x1, c.keep a1 (h35 _)⟩, ⟨ao, n, cap, xs, a2, c.keep a3 (h79 _ _), c.ownsRow a4 (fun k cs _ => h5 k cs)⟩, ⟨ov, c.keep a5 (h89 _ _), c.ownsRow a6 (fun k cs _ => h93 k cs)⟩, ⟨D, c.ownsMap a7 hm, a8⟩, ⟨top, Nat.le_trans a9 c.size, a10.keep c (fun b o hb _ => hg b o hb)⟩, h.all, h.len, ⟨b1, b2, b3, b4, Nat.le_trans b5 c.size⟩⟩

/-- 'next' has bound the registers to row r. -/
theorem XSt.next {w w' : World} {SB RL DB AB n : Nat} {kd vd : Nat → Nat} {v0 v1 v2 v3 v4 v5 v6 RU HB GB RB KB GM M I G0 B PB : Nat} {op rg : Int} {vs : List Int} {cur : Value} {wk : Nat} {q k v r rb : Nat} {rt : TypeId} {L : List GR} {mcs : Array Value}
    (h : XSt w SB RL DB AB n kd vd v0 v1 v2 v3 v4 v5 v6 RU HB GB RB KB GM M I G0 B PB op rg vs cur wk q k v L) (hrt : rt = 3 ∨ rt = 109) (hM0 : w.heap[M]? = some (.cells mcs 31 (0, 0)))
    (hR : w'.heap[RB]? = some (.cells #[.int .u32 (kd r), .int .u32 (vd r)] 35 (0, 0))) (hM : w'.heap[M]? = some (.cells (mcs.setIfInBounds 10 (.int .i64 (wk + 1))) 31 (0, 0))) (c : Ch 0 (OnNext RB rb M rt) w w') :
    XSt w' SB RL DB AB n kd vd v0 v1 v2 v3 v4 v5 v6 RU HB GB RB KB GM M I G0 B PB op rg vs cur ((wk + 1 : Nat) : Int) q (kd r) (vd r) L := by
  obtain ⟨l1, l2, l3, l4, l5, l6, l7, l8, l9, l10⟩ := h.low
  have nn : ∀ {b : Nat} {cs : Array Value} {t : TypeId} {fr : Nat × Nat}, t ≠ 35 → t ≠ 3 → t ≠ 109 → t ≠ 31 → ¬ OnNext RB rb M rt b (.cells cs t fr) := by
    rintro b cs t fr h1 h2 h3 h4 (⟨_, cs', fr', e⟩ | ⟨_, cs', fr', e⟩ | ⟨_, cs', fr', e⟩)
    · cases e; exact h1 rfl
    · cases e; rcases hrt with e | e
      · exact h2 e
      · exact h3 e
    · cases e; exact h4 rfl
  have n35 : ∀ {b : Nat} {cs : Array Value} {fr : Nat × Nat}, b ≠ RB → ¬ OnNext RB rb M rt b (.cells cs 35 fr) := by
    rintro b cs fr h1 (⟨e, _⟩ | ⟨_, cs', fr', e⟩ | ⟨_, cs', fr', e⟩)
    · exact h1 e
    · cases e; rcases hrt with e | e <;> cases e
    · cases e
  have nm : ∀ {b : Nat} {es : Array MapEntry} {ck : Nat}, ¬ OnNext RB rb M rt b (.map es ck) := by
    rintro b es ck (⟨_, cs', fr', e⟩ | ⟨_, cs', fr', e⟩ | ⟨_, cs', fr', e⟩) <;> cases e
  obtain ⟨vv, m1, m2⟩ := h.mach.blk
  obtain ⟨d, m3, m4⟩ := h.mach.ids
  rw [hM0] at m1
  simp only [Option.some.injEq, Obj.cells.injEq, and_true] at m1
  obtain ⟨rfl⟩ := m1
  have hne := h.cf.ne
  obtain ⟨cs, r1, r2⟩ := h.cf.ru
  refine ⟨h.scan.keep c (fun k cs => nn (by decide) (by decide) (by decide) (by decide)) (fun k cs => nn (by decide) (by decide) (by decide) (by decide)) (fun k cs => nn (by decide) (by decide) (by decide) (by decide)) (fun cs => n35 (Ne.symm l9)), ?_, h.ast.ch c (fun cs => n35 (Ne.symm hne)) (fun b cs => nn (by decide) (by decide) (by decide) (by decide)) (fun b cs => nn (by decide) (by decide) (by decide) (by decide)) (fun b cs => nn (by decide) (by decide) (by decide) (by decide)) (fun b cs => nn (by decide) (by decide) (by decide) (by decide)) (fun es ck => nm) ?_, ⟨⟨vv, ?_, c.ownsRow m2 (fun k cs _ => nn (by decide) (by decide) (by decide) (by decide))⟩, ⟨d, c.ownsMap m3 (fun es ck => nm), m4⟩, h.mach.nodup, h.mach.wf, h.mach.len, h.mach.lo⟩, h.view, c.keep h.plan (nn (by decide) (by decide) (by decide) (by decide)), h.low⟩
  · exact ⟨c.keep h.cf.b0 (nn (by decide) (by decide) (by decide) (by decide)), c.keep h.cf.b1 (nn (by decide) (by decide) (by decide) (by decide)), c.keep h.cf.b2 (nn (by decide) (by decide) (by decide) (by decide)), c.keep h.cf.b4 (nn (by decide) (by decide) (by decide) (by decide)), c.keep h.cf.b5 (nn (by decide) (by decide) (by decide) (by decide)), ⟨cs, c.keep r1 (nn (by decide) (by decide) (by decide) (by decide)), r2⟩, c.keep h.cf.hb (nn (by decide) (by decide) (by decide) (by decide)), c.keep h.cf.gb (nn (by decide) (by decide) (by decide) (by decide)), hR, hne⟩
  · rintro b o hb (⟨cs', t, fr, rfl, ht⟩ | ⟨es, ck, rfl⟩)
    · rcases ht with rfl | rfl | rfl
      · exact nn (by decide) (by decide) (by decide) (by decide)
      · exact nn (by decide) (by decide) (by decide) (by decide)
      · exact n35 (by omega)
    · exact nm
  · rw [hM]
    rfl

/-- Nothing that it speaks of has turned. -/
theorem XSt.below {w w' : World} {SB RL DB AB n : Nat} {kd vd : Nat → Nat} {v0 v1 v2 v3 v4 v5 v6 RU HB GB RB KB GM M I G0 B PB : Nat} {op rg : Int} {vs : List Int} {cur : Value} {work : Int} {q k v : Nat} {L : List GR}
    (h : XSt w SB RL DB AB n kd vd v0 v1 v2 v3 v4 v5 v6 RU HB GB RB KB GM M I G0 B PB op rg vs cur work q k v L) (c : Below w.heap.size w w') : XSt w' SB RL DB AB n kd vd v0 v1 v2 v3 v4 v5 v6 RU HB GB RB KB GM M I G0 B PB op rg vs cur work q k v L :=
  ⟨h.scan.below c, h.cf.up c, h.ast.ch (Ch.of_below (S := fun _ _ => False) c) (by simp) (by simp) (by simp) (by simp) (by simp) (by simp) (by simp), h.mach.below c, h.view, (c.block _ (lt_blk h.plan)).trans h.plan, h.low⟩
end Go.Proofs.YbulkeifqGreat
