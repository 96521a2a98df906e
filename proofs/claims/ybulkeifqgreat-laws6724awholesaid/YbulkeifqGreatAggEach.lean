/-
  'aggregate' (10): what the two calls of a round of its last loop ask for. No walk.
-/
import Derived.Test.YbulkeifqGreatAggMid
namespace Go.Proofs.YbulkeifqGreat
open Go.RowKit Go.Maps
set_option linter.unusedVariables false

/-- The group whose turn it is. -/
theorem LSt.at {w : World} {v0 v1 v2 v4 v5 RU HB GB RB KB GM M I G0 B E0 GV CV SV : Nat} {op rg : Int} {vs ext : List Int} {cur : Value} {work : Int} {stop i : Nat} {ov : Value} {L : List GR} {Ts : List TR}
    (h : LSt w v0 v1 v2 v4 v5 RU HB GB RB KB GM M I G0 B E0 GV CV SV op rg vs ext cur work stop i ov L Ts) (hi : i < L.length) : ∃ g, L[i]? = some g ∧ G0 ≤ g.lo ∧ g.hi ≤ E0 ∧ Grp w g.lo g.hi op rg vs g.gb g.k g.xs ∧ g.xs ≠ [] ∧ g.xs.length ≤ 1048576 ∧ ∀ x ∈ g.xs, x < vs.length := by
  obtain ⟨lo, top, g1, g2, g3⟩ := h.grps
  rw [List.drop_eq_getElem_cons hi] at g3
  obtain ⟨q1, q2, q3, q4⟩ := g3
  have q5 := q4.le
  exact ⟨L[i], List.getElem?_eq_getElem hi, by omega, by omega, q3, h.all _ (List.getElem_mem hi)⟩

/-- What was emitted stands behind 'fill'. -/
theorem LSt.fil {w X : World} {v0 v1 v2 v4 v5 RU HB GB RB KB GM M I G0 B E0 GV CV SV : Nat} {op rg : Int} {vs ext : List Int} {cur : Value} {work : Int} {stop i : Nat} {ov : Value} {L : List GR} {Ts : List TR} {lo hi : Nat}
    (h : LSt w v0 v1 v2 v4 v5 RU HB GB RB KB GM M I G0 B E0 GV CV SV op rg vs ext cur work stop i ov L Ts) (cX : Ch 0 (OnFil B M I lo hi) w X) (hh : hi ≤ E0) : ESt X GV CV SV E0 stop (i : Int) Ts := by
  have ng : ∀ {b : Nat} {cs : Array Value} {t : TypeId}, t ≠ 117 → t ≠ 119 → t ≠ 35 → ¬ OnGrp lo hi b (.cells cs t (0, 0)) := fun a b c => not_grp a b c
  exact h.est.ch cX (fun cs hb => not_fil h.mach hb (by decide) (by decide) (ng (by decide) (by decide) (by decide))) (fun b cs hb => not_fil h.mach hb (by decide) (by decide) (ng (by decide) (by decide) (by decide))) (fun b cs hb _ => not_fil h.mach hb (by decide) (by decide) (ng (by decide) (by decide) (by decide))) (fun b cs hb hE0 => not_fil h.mach hb (by decide) (by decide) (fun hs => by have := hs.2.1; omega))

theorem LSt.cff {w X : World} {v0 v1 v2 v4 v5 RU HB GB RB KB GM M I G0 B E0 GV CV SV : Nat} {op rg : Int} {vs ext : List Int} {cur : Value} {work : Int} {stop i : Nat} {ov : Value} {L : List GR} {Ts : List TR} {lo hi k v : Nat}
    (h : LSt w v0 v1 v2 v4 v5 RU HB GB RB KB GM M I G0 B E0 GV CV SV op rg vs ext cur work stop i ov L Ts) (hc : CF w v0 v1 v2 v4 v5 RU HB GB RB KB GM M op rg k v) (cX : Ch 0 (OnFil B M I lo hi) w X) (hl : G0 ≤ lo) : CF X v0 v1 v2 v4 v5 RU HB GB RB KB GM M op rg k v := by
  have hlow := h.low
  exact hc.keep cX (fun b cs t ht hb => by
    refine not_fil h.mach hb ?_ ?_ (not_grp ?_ ?_ ?_) <;> (rintro rfl; simp at ht)) (fun cs hs => by
    obtain ⟨e1, e2⟩ := h.mach.ne hc.rb (by decide)
    rcases hs with e | e | ⟨_, cs', fr, e⟩ | e
    · exact e1 e
    · exact e2 e
    · cases e
    · have := e.1
      omega)

theorem CF.em {X w' : World} {v0 v1 v2 v4 v5 RU HB GB RB KB GM M E0 GV CV : Nat} {op rg : Int} {k v : Nat} (hcX : CF X v0 v1 v2 v4 v5 RU HB GB RB KB GM M op rg k v) (cE : Ch 0 (OnEm GV CV E0) X w') (h1 : v1 < E0) (h2 : v2 < E0) : CF w' v0 v1 v2 v4 v5 RU HB GB RB KB GM M op rg k v := by
  have nem : ∀ {b : Nat} {cs : Array Value} {t : TypeId} {fr : Nat × Nat}, t ≠ 75 → t ≠ 3 → t ≠ 26 → ¬ OnEm GV CV E0 b (.cells cs t fr) := by
    rintro b cs t fr h1 h2 h3 (⟨_, cs', fr', e⟩ | ⟨_, cs', fr', e⟩ | ⟨_, cs', fr', e⟩)
    · cases e; exact h1 rfl
    · cases e; exact h2 rfl
    · cases e; exact h3 rfl
  have n26 : ∀ {b : Nat} {cs : Array Value}, b < E0 → ¬ OnEm GV CV E0 b (.cells cs 26 (0, 0)) := by
    rintro b cs hb' (⟨_, cs', fr', e⟩ | ⟨_, cs', fr', e⟩ | ⟨hb2, cs', fr', e⟩)
    · cases e
    · cases e
    · omega
  obtain ⟨rc, r1, r2⟩ := hcX.ru
  exact ⟨cE.keep hcX.b0 (nem (by decide) (by decide) (by decide)), cE.keep hcX.b1 (n26 h1), cE.keep hcX.b2 (n26 h2), cE.keep hcX.b4 (nem (by decide) (by decide) (by decide)), cE.keep hcX.b5 (nem (by decide) (by decide) (by decide)), ⟨rc, cE.keep r1 (nem (by decide) (by decide) (by decide)), r2⟩, cE.keep hcX.hb (nem (by decide) (by decide) (by decide)), cE.keep hcX.gb (nem (by decide) (by decide) (by decide)), cE.keep hcX.rb (nem (by decide) (by decide) (by decide)), hcX.ne⟩

/-- Nothing that it speaks of has turned. -/
theorem LSt.below {w w' : World} {v0 v1 v2 v4 v5 RU HB GB RB KB GM M I G0 B E0 GV CV SV : Nat} {op rg : Int} {vs ext : List Int} {cur : Value} {work : Int} {stop i : Nat} {ov : Value} {L : List GR} {Ts : List TR}
    (h : LSt w v0 v1 v2 v4 v5 RU HB GB RB KB GM M I G0 B E0 GV CV SV op rg vs ext cur work stop i ov L Ts) (c : Below w.heap.size w w') : LSt w' v0 v1 v2 v4 v5 RU HB GB RB KB GM M I G0 B E0 GV CV SV op rg vs ext cur work stop i ov L Ts := by
  obtain ⟨k, v, hc⟩ := h.cf
  obtain ⟨lo, top, g1, g2, g3⟩ := h.grps
  have cc : Ch 0 (fun _ _ => False) w w' := Ch.of_below c
  exact ⟨⟨k, v, hc.up c⟩, h.mach.below c, h.exl, cc.ownsRow h.ord (fun _ _ _ h => h), ⟨lo, top, g1, g2, g3.keep cc (fun _ _ _ _ _ h => h)⟩, h.est.ch cc (fun _ _ h => h) (fun _ _ _ h => h) (fun _ _ _ _ h => h) (fun _ _ _ _ h => h), h.len, h.tok, h.all, h.vlow, h.low⟩
end Go.Proofs.YbulkeifqGreat
