/-
  'aggregate' (10): the loop over the groups: what its rounds hand on. No walk.
-/
import Derived.Test.YbulkeifqGreatFillB
import Derived.Test.YbulkeifqGreatExecLaws
import Derived.Test.YbulkeifqGreatEmit
namespace Go.Proofs.YbulkeifqGreat
open Go.RowKit Go.Maps
set_option linter.unusedVariables false

/-- Each tuple is its group's: the key's id, and an id of what the aggregate is to be. -/
def TOK (op rg : Int) (vs us : List Int) (L : List GR) (Ts : List TR) : Prop :=
  ∀ (j : Nat) (t : TR), Ts[j]? = some t → ∃ g : GR, L[j]? = some g ∧ t.a = g.k ∧ t.b < us.length ∧ ResOK op rg vs g.xs (us.getD t.b 0)

theorem TOK.grow {op rg : Int} {vs us ext : List Int} {L : List GR} {Ts : List TR} (h : TOK op rg vs us L Ts) : TOK op rg vs (us ++ ext) L Ts := by
  intro j t ht
  obtain ⟨g, h1, h2, h3, h4⟩ := h j t ht
  refine ⟨g, h1, h2, by simp; omega, ?_⟩
  have : (us ++ ext).getD t.b 0 = us.getD t.b 0 := by
    simp only [List.getD_eq_getElem?_getD]
    rw [List.getElem?_append_left h3]
  rw [this]
  exact h4

theorem TOK.snoc {op rg : Int} {vs us : List Int} {L : List GR} {Ts : List TR} (h : TOK op rg vs us L Ts) {g : GR} {t : TR} (hg : L[Ts.length]? = some g) (h1 : t.a = g.k) (h2 : t.b < us.length) (h3 : ResOK op rg vs g.xs (us.getD t.b 0)) : TOK op rg vs us L (Ts ++ [t]) := by
  intro j u hu
  by_cases hj : j < Ts.length
  · rw [List.getElem?_append_left hj] at hu
    exact h j u hu
  · rw [List.getElem?_append_right (by omega)] at hu
    have : j = Ts.length := by
      have := (List.getElem?_eq_some_iff.1 hu).1
      simp at this
      omega
    subst this
    simp at hu
    subst hu
    exact ⟨g, hg, h1, h2, h3⟩

/-- The state when i groups have been emitted. -/
structure LSt (w : World) (v0 v1 v2 v4 v5 RU HB GB RB KB GM M I G0 B E0 GV CV SV : Nat) (op rg : Int) (vs ext : List Int) (cur : Value) (work : Int) (stop i : Nat) (ov : Value) (L : List GR) (Ts : List TR) : Prop where
  cf : ∃ k v, CF w v0 v1 v2 v4 v5 RU HB GB RB KB GM M op rg k v
  mach : Mach w B M I (vs ++ ext) cur work
  exl : ext.length ≤ i
  ord : w.ownsRow G0 93 1 ov L.length (L.map fun g => .pointer (some ⟨g.gb, 0, none⟩))
  grps : ∃ lo top, G0 ≤ lo ∧ top ≤ E0 ∧ Grps w op rg vs lo top (L.drop i)
  est : ESt w GV CV SV E0 stop (i : Int) Ts
  len : Ts.length = i ∧ i ≤ L.length
  tok : TOK op rg vs (vs ++ ext) L Ts
  all : ∀ g ∈ L, g.xs ≠ [] ∧ g.xs.length ≤ 1048576 ∧ ∀ x ∈ g.xs, x < vs.length
  vlow : v1 < E0 ∧ v2 < E0
  low : RB < G0 ∧ M < G0 ∧ I < G0 ∧ B ≤ G0 ∧ G0 ≤ E0 ∧ vs.length ≤ 2097152 ∧ L.length ≤ 1048576

theorem ESt.ch {w w' : World} {GV CV SV E0 : Nat} {stop c : Int} {Ts : List TR} (h : ESt w GV CV SV E0 stop c Ts) {S : Nat → Obj → Prop} (cc : Ch 0 S w w') (h1 : ∀ cs, w.heap[GV]? = some (.cells cs 75 (0, 0)) → ¬ S GV (.cells cs 75 (0, 0))) (h2 : ∀ b cs, w.heap[b]? = some (.cells cs 3 (0, 0)) → ¬ S b (.cells cs 3 (0, 0)))
    (h3 : ∀ b cs, w.heap[b]? = some (.cells cs 26 (0, 0)) → E0 ≤ b → ¬ S b (.cells cs 26 (0, 0))) (h4 : ∀ b cs, w.heap[b]? = some (.cells cs 35 (0, 0)) → E0 ≤ b → ¬ S b (.cells cs 35 (0, 0))) : ESt w' GV CV SV E0 stop c Ts := by
  obtain ⟨gv, a1, a2⟩ := h.got
  obtain ⟨b1, b2, b3, b4⟩ := h.low
  refine ⟨⟨gv, cc.keep a1 (h1 _ a1), ?_⟩, cc.keep h.calls (h2 _ _ h.calls), cc.keep h.stop (h2 _ _ h.stop), h.ne, fun t ht => ?_, ⟨b1, b2, b3, Nat.le_trans b4 cc.size⟩⟩
  · obtain ⟨q1, q2⟩ := a2
    refine ⟨q1, ?_⟩
    rcases q2 with q2 | ⟨g, cap, cur, hv, hg, hh, r⟩
    · exact .inl q2
    · exact .inr ⟨g, cap, cur, hv, hg, cc.keep hh (h3 _ _ hh hg), r⟩
  · obtain ⟨c1, cs, c2, c3⟩ := h.rows t ht
    exact ⟨c1, cs, cc.keep c2 (h4 _ _ c2 c1), c3⟩

/-- Where the machine lies no block of another kind lies. -/
theorem not_fil {w : World} {B M I lo hi b : Nat} {us : List Int} {cur : Value} {work : Int} {cs : Array Value} {t : TypeId} (hM : Mach w B M I us cur work) (hb : w.heap[b]? = some (.cells cs t (0, 0))) (h1 : t ≠ 31) (h2 : t ≠ 39) (h3 : ¬ OnGrp lo hi b (.cells cs t (0, 0))) : ¬ OnFil B M I lo hi b (.cells cs t (0, 0)) := by
  obtain ⟨e1, e2⟩ := hM.ne hb h1
  rintro (e | e | ⟨_, cs', fr, e⟩ | e)
  · exact e1 e
  · exact e2 e
  · cases e; exact h2 rfl
  · exact h3 e

/-- One group more: filled (to X), emitted (to w'). -/
theorem LSt.step {w X w' : World} {v0 v1 v2 v4 v5 RU HB GB RB KB GM M I G0 B E0 GV CV SV : Nat} {op rg : Int} {vs ext ex2 : List Int} {cur : Value} {work : Int} {stop i : Nat} {ov : Value} {L : List GR} {Ts : List TR} {g : GR} {r g9 cap9 : Nat}
    (h : LSt w v0 v1 v2 v4 v5 RU HB GB RB KB GM M I G0 B E0 GV CV SV op rg vs ext cur work stop i ov L Ts) (hg : L[i]? = some g) (he : ex2.length ≤ 1) (hX : Mach X B M I (vs ++ (ext ++ ex2)) cur work) (hr : r < (vs ++ (ext ++ ex2)).length) (hR : ResOK op rg vs g.xs ((vs ++ (ext ++ ex2)).getD r 0))
    (cX : Ch 0 (OnFil B M I g.lo g.hi) w X) (hE : ESt X GV CV SV E0 stop (i : Int) Ts → ESt w' GV CV SV E0 stop ((i + 1 : Nat) : Int) (Ts ++ [⟨g9, cap9, g.k, r⟩])) (cE : Ch 0 (OnEm GV CV E0) X w') :
    LSt w' v0 v1 v2 v4 v5 RU HB GB RB KB GM M I G0 B E0 GV CV SV op rg vs (ext ++ ex2) cur work stop (i + 1) ov L (Ts ++ [⟨g9, cap9, g.k, r⟩]) := by
  obtain ⟨k, v, hc⟩ := h.cf
  obtain ⟨l1, l2, l3, l4, l5, l6, l7⟩ := h.low
  obtain ⟨lo, top, g1, g2, g3⟩ := h.grps
  obtain ⟨n1, n2⟩ := h.len
  have hil : i < L.length := (List.getElem?_eq_some_iff.1 hg).1
  have hd : L.drop i = g :: L.drop (i + 1) := by
    rw [List.drop_eq_getElem_cons hil]
    congr 1
    have := (List.getElem?_eq_some_iff.1 hg).2
    exact this
  rw [hd] at g3
  obtain ⟨q1, q2, q3, q4⟩ := g3
  have q5 := q4.le
  have hlow := h.est.low
  have ng : ∀ {b : Nat} {cs : Array Value} {t : TypeId}, t ≠ 117 → t ≠ 119 → t ≠ 35 → ¬ OnGrp g.lo g.hi b (.cells cs t (0, 0)) := fun a b c => not_grp a b c
  have nem : ∀ {b : Nat} {cs : Array Value} {t : TypeId} {fr : Nat × Nat}, t ≠ 75 → t ≠ 3 → t ≠ 26 → ¬ OnEm GV CV E0 b (.cells cs t fr) := by
    rintro b cs t fr h1 h2 h3 (⟨_, cs', fr', e⟩ | ⟨_, cs', fr', e⟩ | ⟨_, cs', fr', e⟩)
    · cases e; exact h1 rfl
    · cases e; exact h2 rfl
    · cases e; exact h3 rfl
  have nemm : ∀ {b : Nat} {es : Array MapEntry} {ck : Nat}, ¬ OnEm GV CV E0 b (.map es ck) := by
    rintro b es ck (⟨_, cs', fr', e⟩ | ⟨_, cs', fr', e⟩ | ⟨_, cs', fr', e⟩) <;> cases e
  have hEX : ESt X GV CV SV E0 stop (i : Int) Ts := h.est.ch cX (fun cs hb => not_fil h.mach hb (by decide) (by decide) (ng (by decide) (by decide) (by decide))) (fun b cs hb => not_fil h.mach hb (by decide) (by decide) (ng (by decide) (by decide) (by decide))) (fun b cs hb _ => not_fil h.mach hb (by decide) (by decide) (ng (by decide) (by decide) (by decide))) (fun b cs hb hE0 => not_fil h.mach hb (by decide) (by decide) (fun hs => by have := hs.2.1; omega))
  have hcX : CF X v0 v1 v2 v4 v5 RU HB GB RB KB GM M op rg k v := hc.keep cX (fun b cs t ht hb => by
    refine not_fil h.mach hb ?_ ?_ (ng ?_ ?_ ?_) <;> (rintro rfl; simp at ht)) (fun cs hs => by
    obtain ⟨e1, e2⟩ := h.mach.ne hc.rb (by decide)
    rcases hs with e | e | ⟨_, cs', fr, e⟩ | e
    · exact e1 e
    · exact e2 e
    · cases e
    · have := e.1
      omega)
  have n26 : ∀ {b : Nat} {cs : Array Value}, b < E0 → ¬ OnEm GV CV E0 b (.cells cs 26 (0, 0)) := by
    rintro b cs hb' (⟨_, cs', fr', e⟩ | ⟨_, cs', fr', e⟩ | ⟨hb2, cs', fr', e⟩)
    · cases e
    · cases e
    · omega
  obtain ⟨rc, r1, r2⟩ := hcX.ru
  refine ⟨⟨k, v, ⟨cE.keep hcX.b0 (nem (by decide) (by decide) (by decide)), cE.keep hcX.b1 (n26 h.vlow.1), cE.keep hcX.b2 (n26 h.vlow.2), cE.keep hcX.b4 (nem (by decide) (by decide) (by decide)), cE.keep hcX.b5 (nem (by decide) (by decide) (by decide)), ⟨rc, cE.keep r1 (nem (by decide) (by decide) (by decide)), r2⟩, cE.keep hcX.hb (nem (by decide) (by decide) (by decide)), cE.keep hcX.gb (nem (by decide) (by decide) (by decide)), cE.keep hcX.rb (nem (by decide) (by decide) (by decide)), hcX.ne⟩⟩, ?_, ?_, ?_, ⟨g.hi, top, by omega, g2, ?_⟩, hE hEX, ?_, ?_, h.all, h.vlow, h.low⟩
  · exact hX.ch cE (fun cs => nem (by decide) (by decide) (by decide)) (fun b cs => nem (by decide) (by decide) (by decide)) (fun es ck => nemm)
  · have := h.exl
    simp
    omega
  · refine cE.ownsRow (?_) (fun b cs _ => nem (by decide) (by decide) (by decide))
    obtain ⟨p1, p2⟩ := h.ord
    refine ⟨p1, ?_⟩
    rcases p2 with p2 | ⟨gg, cap, cu, hv, hg', hh, rr⟩
    · exact .inl p2
    · exact .inr ⟨gg, cap, cu, hv, hg', cX.keep hh (not_fil h.mach hh (by decide) (by decide) (ng (by decide) (by decide) (by decide))), rr⟩
  · refine (q4.keep cX (fun b o hb hb2 hgt hs => ?_)).keep cE (fun b o hb hb2 hgt hs => ?_)
    · rcases hs with e | e | ⟨_, cs', fr, e⟩ | e
      · omega
      · omega
      · subst e
        rcases hgt with ⟨cs2, t2, fr2, e2, ht2⟩ | ⟨es, ck, e2⟩
        · cases e2; simp at ht2
        · cases e2
      · have := e.2.1
        omega
    · rcases hgt with ⟨cs2, t2, fr2, e2, ht2⟩ | ⟨es, ck, e2⟩
      · subst e2
        refine nem ?_ ?_ ?_ hs <;> (rintro rfl; simp at ht2)
      · subst e2
        exact nemm hs
  · simp
    omega
  · refine TOK.snoc ?_ (by rw [n1]; exact hg) rfl hr hR
    have := h.tok.grow (ext := ex2)
    rwa [List.append_assoc] at this
end Go.Proofs.YbulkeifqGreat
