/-
  THE LAW's OWN MODEL IN MEMORY: the keys, the table of places, the rows of values. No walk.
-/
import Derived.Test.YbulkeifqGreatLawPlain
import Derived.Laws.OwnMore
namespace Go.Proofs.YbulkeifqGreat
open Go.RowKit Go.Maps
set_option linter.unusedVariables false

/-- The model's memory: the keys ks, the values zss of each, c k: the place of key k. All of it lies from B on. -/
structure MSt (w : World) (B IX : Nat) (kv vv : Value) (ks : List Nat) (zss : List (List Int)) (c : Nat → Nat) (S : List Value) : Prop where
  keys : w.ownsRow B 5 1 kv ks.length (ks.map fun k : Nat => Value.int .u8 (k : Int))
  vals : w.ownsRow B 82 1 vv S.length S
  len : S.length = zss.length ∧ zss.length = ks.length
  rows : ∀ (j : Nat) (s : Value) (zs : List Int), S[j]? = some s → zss[j]? = some zs → w.ownsRow B 2 1 s zs.length (zs.map (Value.int .i64))
  apart : ∀ (i j : Nat) (s s' : Value) (b : Nat), i ≠ j → S[i]? = some s → S[j]? = some s' → s.ownBlock = some b → s'.ownBlock ≠ some b
  idx : ∃ cs, w.heap[IX]? = some (.cells cs 80 (0, 0)) ∧ cs.size = 256 ∧ ∀ k, k < 256 → cs[k]? = some (.int .i64 (c k : Nat))
  ok : IdxOK ks c
  lo : B ≤ IX

theorem MSt.below {w w' : World} {B IX : Nat} {kv vv : Value} {ks : List Nat} {zss : List (List Int)} {c : Nat → Nat} {S : List Value} (h : MSt w B IX kv vv ks zss c S) (b : Below w.heap.size w w') : MSt w' B IX kv vv ks zss c S := by
  have cc : Ch 0 (fun _ _ => False) w w' := Ch.of_below b
  obtain ⟨cs, i1, i2⟩ := h.idx
  exact ⟨cc.ownsRow h.keys (by simp), cc.ownsRow h.vals (by simp), h.len, fun j s zs h1 h2 => cc.ownsRow (h.rows j s zs h1 h2) (by simp), h.apart, ⟨cs, cc.keep i1 (by simp), i2⟩, h.ok, h.lo⟩

def Tg' (t : TypeId) (k : Nat) (o : Obj) : Prop := ∃ cs fr, o = .cells cs t fr

theorem not_tg {t t' : TypeId} {k : Nat} {cs : Array Value} {fr : Nat × Nat} (h : t' ≠ t) : ¬ Tg' t k (.cells cs t' fr) := by
  rintro ⟨cs', fr', e⟩
  cases e
  exact h rfl

theorem ch_app {w w' : World} {B e : Nat} {o : Obj} {v : Value} {n size : Nat} {xs : List Value} (hown : w.ownsRow B e size v n xs) (hg : (w.alloc o).grownBy w' v.ownBlock) : Ch B (Tg' e) w w' :=
  ((Ch.refl _ _ w).alloc o).trans (Ch.of_grown hg (fun k hk => by
    obtain ⟨hb, cs, hcs⟩ := own_row hown k hk
    refine ⟨hb, fun x hx => ?_⟩
    rw [alloc_old _ hcs] at hx
    cases hx
    exact ⟨_, _, rfl⟩))

/-- A key more, with no value yet. -/
theorem MSt.miss {w w1 w2 : World} {B IX k : Nat} {kv vv kv' vv' : Value} {ks : List Nat} {zss : List (List Int)} {c : Nat → Nat} {S : List Value} {o o' : Obj} (h : MSt w B IX kv vv ks zss c S) (hk : k < 256) (h0 : c k = 0) (hB : B ≤ w.heap.size)
    (own1 : w1.ownsRow B 5 1 kv' (ks.length + 1) ((ks.map fun k : Nat => Value.int .u8 (k : Int)) ++ [.int .u8 (k : Int)])) (g1 : (w.alloc o).grownBy w1 kv.ownBlock)
    (own2 : w2.ownsRow B 82 1 vv' (S.length + 1) (S ++ [.slice none 0 0])) (g2 : (w1.alloc o').grownBy w2 vv.ownBlock) :
    MSt (w2.setCell ⟨IX, k, none⟩ (.int .i64 ((ks.length + 1 : Nat) : Int))) B IX kv' vv' (ks ++ [k]) (zss ++ [[]]) (fun x => if x = k then ks.length + 1 else c x) (S ++ [.slice none 0 0]) ∧
    Below B w (w2.setCell ⟨IX, k, none⟩ (.int .i64 ((ks.length + 1 : Nat) : Int))) ∧ w2.cell? ⟨IX, k, none⟩ = some (.int .i64 (0 : Int)) ∧ w2.frozen? ⟨IX, k, none⟩ = false := by
  obtain ⟨cs, i1, i2, i3⟩ := h.idx
  have c1 : Ch B (Tg' 5) w w1 := ch_app h.keys g1
  have c2 : Ch B (Tg' 82) w1 w2 := ch_app (c1.ownsRow h.vals (fun k cs _ => not_tg (by decide))) g2
  have j1 : w1.heap[IX]? = some (.cells cs 80 (0, 0)) := c1.keep i1 (not_tg (by decide))
  have j2 : w2.heap[IX]? = some (.cells cs 80 (0, 0)) := c2.keep j1 (not_tg (by decide))
  have c3 : Ch B (Tg' 80) w2 (w2.setCell ⟨IX, k, none⟩ (.int .i64 ((ks.length + 1 : Nat) : Int))) := (Ch.refl _ _ _).setCell h.lo (fun x hx => by rw [j2] at hx; cases hx; exact ⟨_, _, rfl⟩) _
  obtain ⟨m1, m2⟩ := h.ok.miss hk h0
  have e1 : (ks ++ [k]).length = ks.length + 1 := by simp
  have e2 : (S ++ [Value.slice none 0 0]).length = S.length + 1 := by simp
  refine ⟨⟨?_, ?_, ?_, ?_, ?_, ?_, m2, h.lo⟩, ?_, ?_, free_blk j2 k⟩
  · rw [e1, List.map_append]
    exact c3.ownsRow (c2.ownsRow own1 (fun k cs _ => not_tg (by decide))) (fun k cs _ => not_tg (by decide))
  · rw [e2]
    exact c3.ownsRow own2 (fun k cs _ => not_tg (by decide))
  · obtain ⟨a, b⟩ := h.len
    simp [a, b]
  · intro j s zs hs hz
    by_cases hj : j < S.length
    · rw [List.getElem?_append_left hj] at hs
      rw [List.getElem?_append_left (by rw [← h.len.1]; exact hj)] at hz
      exact c3.ownsRow (c2.ownsRow (c1.ownsRow (h.rows j s zs hs hz) (fun k cs _ => not_tg (by decide))) (fun k cs _ => not_tg (by decide))) (fun k cs _ => not_tg (by decide))
    · have hj' : j = S.length := by
        have := (List.getElem?_eq_some_iff.1 hs).1
        simp at this
        omega
      subst hj'
      rw [List.getElem?_append_right (Nat.le_refl _)] at hs
      rw [h.len.1, List.getElem?_append_right (Nat.le_refl _)] at hz
      simp at hs hz
      subst hs hz
      exact ⟨rfl, .inl ⟨rfl, rfl⟩⟩
  · intro i j s s' b hij hs hs' hb hb'
    by_cases hi : i < S.length
    · by_cases hj : j < S.length
      · rw [List.getElem?_append_left hi] at hs
        rw [List.getElem?_append_left hj] at hs'
        exact h.apart i j s s' b hij hs hs' hb hb'
      · rw [List.getElem?_append_right (by omega)] at hs'
        have : j - S.length = 0 := by
          have := (List.getElem?_eq_some_iff.1 hs').1
          simp at this
          omega
        rw [this] at hs'
        simp at hs'
        subst hs'
        cases hb'
    · rw [List.getElem?_append_right (by omega)] at hs
      have : i - S.length = 0 := by
        have := (List.getElem?_eq_some_iff.1 hs).1
        simp at this
        omega
      rw [this] at hs
      simp at hs
      subst hs
      cases hb
  · refine ⟨_, set_blk j2 _ _, by simpa using i2, fun x hx => ?_⟩
    by_cases e : x = k
    · subst e
      simp [i2, hk]
    · rw [Array.getElem?_setIfInBounds_ne (fun h => e h.symm)]
      simpa [e] using i3 x hx
  · exact (c1.below hB).trans ((c2.below (Nat.le_trans hB c1.size)).trans (c3.below (Nat.le_trans hB (Nat.le_trans c1.size c2.size))))
  · rw [cell_blk j2]
    have := i3 k hk
    rw [h0] at this
    exact this

/-- A value more, at place j. -/
theorem MSt.push {w w1 : World} {B IX j g cap' vb vcap : Nat} {v : Int} {kv s : Value} {ks : List Nat} {zss : List (List Int)} {zs : List Int} {c : Nat → Nat} {S : List Value} {o : Obj} (h : MSt w B IX kv (.slice (some ⟨vb, 0, none⟩) S.length vcap) ks zss c S) (hB : B ≤ w.heap.size) (hs : S[j]? = some s) (hz : zss[j]? = some zs)
    (own1 : w1.ownsRow B 2 1 (.slice (some ⟨g, 0, none⟩) (zs.length + 1) cap') (zs.length + 1) (zs.map (Value.int .i64) ++ [.int .i64 v])) (g1 : (w.alloc o).grownBy w1 s.ownBlock) (hg : s.ownBlock = some g ∨ w.heap.size ≤ g) :
    MSt (w1.setCell ⟨vb, j, none⟩ (.slice (some ⟨g, 0, none⟩) (zs.length + 1) cap')) B IX kv (.slice (some ⟨vb, 0, none⟩) S.length vcap) ks (zss.set j (zs ++ [v])) c (S.set j (.slice (some ⟨g, 0, none⟩) (zs.length + 1) cap')) ∧
    Below B w (w1.setCell ⟨vb, j, none⟩ (.slice (some ⟨g, 0, none⟩) (zs.length + 1) cap')) := by
  obtain ⟨cs, i1, i2, i3⟩ := h.idx
  have hr := h.rows j s zs hs hz
  have hjS : j < S.length := (List.getElem?_eq_some_iff.1 hs).1
  have hjz : j < zss.length := (List.getElem?_eq_some_iff.1 hz).1
  have c1 : Ch B (fun k o => s.ownBlock = some k ∧ Tg' 2 k o) w w1 := ((Ch.refl _ _ w).alloc o).trans (Ch.of_grown g1 (fun k hk => by
    obtain ⟨hb, cs, hcs⟩ := own_row hr k hk
    refine ⟨hb, fun x hx => ?_⟩
    rw [alloc_old _ hcs] at hx
    cases hx
    exact ⟨hk, _, _, rfl⟩))
  obtain ⟨vc, hvc⟩ : ∃ cs, w.heap[vb]? = some (.cells cs 82 (0, 0)) := (own_row h.vals vb rfl).2
  have hvb : B ≤ vb := (own_row h.vals vb rfl).1
  have hvc1 : w1.heap[vb]? = some (.cells vc 82 (0, 0)) := c1.keep hvc (fun h => not_tg (by decide) h.2)
  have hv1 : w1.ownsRow B 82 1 (.slice (some ⟨vb, 0, none⟩) S.length vcap) S.length S := c1.ownsRow h.vals (fun k cs _ h => not_tg (by decide) h.2)
  have c2 : Ch B (Tg' 82) w1 (w1.setCell ⟨vb, j, none⟩ (.slice (some ⟨g, 0, none⟩) (zs.length + 1) cap')) := (Ch.refl _ _ _).setCell hvb (fun x hx => by rw [hvc1] at hx; cases hx; exact ⟨_, _, rfl⟩) _
  refine ⟨⟨?_, ?_, ?_, ?_, ?_, ⟨cs, c2.keep (c1.keep i1 (fun h => not_tg (by decide) h.2)) (not_tg (by decide)), i2, i3⟩, h.ok, h.lo⟩, ?_⟩
  · exact c2.ownsRow (c1.ownsRow h.keys (fun k cs _ h => not_tg (by decide) h.2)) (fun k cs _ => not_tg (by decide))
  · have := (hv1.stored j (.slice (some ⟨g, 0, none⟩) (zs.length + 1) cap')).1
    simpa using this
  · simpa using h.len
  · intro i t ts ht hts
    by_cases e : i = j
    · subst e
      rw [List.getElem?_set_self hjS] at ht
      rw [List.getElem?_set_self hjz] at hts
      cases ht
      cases hts
      have := c2.ownsRow own1 (fun k cs _ => not_tg (by decide))
      simpa using this
    · rw [List.getElem?_set_ne (fun h => e h.symm)] at ht hts
      refine c2.ownsRow (c1.ownsRow (h.rows i t ts ht hts) (fun k cs hk hh => ?_)) (fun k cs _ => not_tg (by decide))
      exact h.apart i j t s k e ht hs hk hh.1
  · intro i i' t t' b hii ht ht' hb hb'
    have newb : ∀ x u, x ≠ j → S[x]? = some u → u.ownBlock = some b → (Value.slice (some ⟨g, 0, none⟩) (zs.length + 1) cap').ownBlock = some b → False := fun x u hx hu hub hgb => by
      cases hgb
      rcases hg with hg | hg
      · exact h.apart x j u s g hx hu hs hub hg
      · obtain ⟨zu, hzu⟩ : ∃ zu, zss[x]? = some zu := ⟨_, List.getElem?_eq_getElem (by rw [← h.len.1]; exact (List.getElem?_eq_some_iff.1 hu).1)⟩
        obtain ⟨_, cu, hcu⟩ := own_row (h.rows x u zu hu hzu) g hub
        have := lt_blk hcu
        omega
    by_cases e : i = j
    · subst e
      rw [List.getElem?_set_self hjS] at ht
      cases ht
      rw [List.getElem?_set_ne hii] at ht'
      exact newb i' t' (fun h => hii h.symm) ht' hb' hb
    · rw [List.getElem?_set_ne (fun h => e h.symm)] at ht
      by_cases e' : i' = j
      · subst e'
        rw [List.getElem?_set_self hjS] at ht'
        cases ht'
        exact newb i t e ht hb hb'
      · rw [List.getElem?_set_ne (fun h => e' h.symm)] at ht'
        exact h.apart i i' t t' b hii ht ht' hb hb'
  · exact (c1.below hB).trans (c2.below (Nat.le_trans hB c1.size))
end Go.Proofs.YbulkeifqGreat
