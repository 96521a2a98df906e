/-
  FRAMES: what a call leaves as it was, said by block numbers and by the blocks' element types. No Go text in sight.
-/
import Derived.WalkKit
import Derived.WalkSpells
import Derived.WalkSmall
namespace Go.Proofs.YbulkeifqGreat
open Go.RowKit

theorem hid' {p : Prop} (h : p) : Hid p := h

/-- Of what was there in w: what lies below B is as it was; so is every block that is neither in D nor a row of cells whose type is in T. -/
structure Fr (B : Nat) (D : List Nat) (T : List TypeId) (w w' : World) : Prop where
  os : w'.os = w.os
  tape : w'.tape = w.tape
  output : w'.output = w.output
  size : w.heap.size ≤ w'.heap.size
  blk : ∀ k, k < w.heap.size → (k < B ∨ (k ∉ D ∧ ∀ cs t fr, w.heap[k]? = some (.cells cs t fr) → t ∉ T)) → w'.heap[k]? = w.heap[k]?

theorem Fr.refl (B : Nat) (D : List Nat) (T : List TypeId) (w : World) : Fr B D T w w := ⟨rfl, rfl, rfl, Nat.le_refl _, fun _ _ _ => rfl⟩

theorem Fr.mono {B B' : Nat} {D D' : List Nat} {T T' : List TypeId} {w w' : World} (h : Fr B D T w w') (hB : B' ≤ B) (hD : ∀ k, k ∈ D → k ∈ D') (hT : ∀ t, t ∈ T → t ∈ T') : Fr B' D' T' w w' :=
  ⟨h.os, h.tape, h.output, h.size, fun k hk hc => h.blk k hk (by
    rcases hc with hc | ⟨h1, h2⟩
    · exact .inl (Nat.lt_of_lt_of_le hc hB)
    · exact .inr ⟨fun hd => h1 (hD k hd), fun cs t fr he ht => h2 cs t fr he (hT t ht)⟩)⟩

theorem Fr.trans {B : Nat} {D : List Nat} {T : List TypeId} {w w1 w2 : World} (h : Fr B D T w w1) (g : Fr B D T w1 w2) : Fr B D T w w2 :=
  ⟨g.os.trans h.os, g.tape.trans h.tape, g.output.trans h.output, Nat.le_trans h.size g.size, fun k hk hc => by
    have e1 := h.blk k hk hc
    refine (g.blk k (Nat.lt_of_lt_of_le hk h.size) ?_).trans e1
    rcases hc with hc | ⟨h1, h2⟩
    · exact .inl hc
    · exact .inr ⟨h1, fun cs t fr he => h2 cs t fr (e1 ▸ he)⟩⟩

/-- Two steps under two lists each. -/
theorem Fr.join {B : Nat} {D D' E : List Nat} {T T' S : List TypeId} {w w1 w2 : World} (h : Fr B D T w w1) (g : Fr B D' T' w1 w2) (hD : ∀ k, k ∈ D → k ∈ E) (hD' : ∀ k, k ∈ D' → k ∈ E) (hT : ∀ t, t ∈ T → t ∈ S) (hT' : ∀ t, t ∈ T' → t ∈ S) : Fr B E S w w2 :=
  (h.mono (Nat.le_refl _) hD hT).trans (g.mono (Nat.le_refl _) hD' hT')

/-- Blocks that were not there yet need not be listed. -/
theorem Fr.drop {B : Nat} {D D' : List Nat} {T : List TypeId} {w w' : World} (h : Fr B D T w w') (hD : ∀ k, k ∈ D → k ∈ D' ∨ w.heap.size ≤ k) : Fr B D' T w w' :=
  ⟨h.os, h.tape, h.output, h.size, fun k hk hc => h.blk k hk (by
    rcases hc with hc | ⟨h1, h2⟩
    · exact .inl hc
    · refine .inr ⟨fun hd => ?_, h2⟩
      rcases hD k hd with h' | h'
      · exact h1 h'
      · omega)⟩

theorem Fr.below {B : Nat} {D : List Nat} {T : List TypeId} {w w' : World} (h : Fr B D T w w') (hB : B ≤ w.heap.size) : Below B w w' :=
  ⟨h.os, h.tape, h.output, h.size, fun k hk => h.blk k (by omega) (.inl hk)⟩

theorem Fr.of_below {B : Nat} {D : List Nat} {T : List TypeId} {w w' : World} (h : Below w.heap.size w w') : Fr B D T w w' :=
  ⟨h.os, h.tape, h.output, h.size, fun k hk _ => h.block k hk⟩

theorem Fr.of_grown {B : Nat} {D : List Nat} {T : List TypeId} {w w' : World} {row : Option Nat} (h : w.grownBy w' row) (hr : ∀ k, row = some k → B ≤ k ∧ (k ∈ D ∨ ∃ cs t fr, w.heap[k]? = some (.cells cs t fr) ∧ t ∈ T)) : Fr B D T w w' :=
  ⟨h.os, h.tape, h.output, h.size, fun k hk hc => h.block k hk (fun e => by
    obtain ⟨h1, h2⟩ := hr k e.symm
    rcases hc with hc | ⟨h3, h4⟩
    · omega
    · rcases h2 with h2 | ⟨cs, t, fr, he, ht⟩
      · exact h3 h2
      · exact h4 cs t fr he ht)⟩

theorem Fr.alloc {B : Nat} {D : List Nat} {T : List TypeId} {w w' : World} (h : Fr B D T w w') (o : Obj) : Fr B D T w (w'.alloc o) :=
  h.trans (Fr.of_below ((Below.refl _ _).alloc (Nat.le_refl _) _))

theorem Fr.drew {B : Nat} {D : List Nat} {T : List TypeId} {w w' : World} (h : Fr B D T w w') : Fr B D T w w'.drew :=
  h.trans (Fr.of_below (Below.refl _ _).drew)

theorem Fr.drewN {B : Nat} {D : List Nat} {T : List TypeId} {w w' : World} (h : Fr B D T w w') (n : Nat) : Fr B D T w (w'.drewN n) :=
  h.trans (Fr.of_below (below_drewN (Below.refl _ _) n))

theorem Fr.setCell {B : Nat} {D : List Nat} {T : List TypeId} {w w' : World} (h : Fr B D T w w') {a : Addr} (ha : B ≤ a.block) (hd : a.block ∈ D) (v : Value) : Fr B D T w (w'.setCell a v) := by
  refine h.trans ⟨rfl, rfl, rfl, by simp [World.setCell], fun k hk hc => Below.heap_setCell _ _ _ _ ?_⟩
  rintro rfl
  rcases hc with hc | ⟨h1, _⟩
  · omega
  · exact h1 hd

/-- A block that is listed nowhere is as it was. -/
theorem Fr.keep {B : Nat} {D : List Nat} {T : List TypeId} {w w' : World} (h : Fr B D T w w') {b : Nat} {cs : Array Value} {t : TypeId} {fr : Nat × Nat} (hb : w.heap[b]? = some (.cells cs t fr)) (hd : b ∉ D) (ht : t ∉ T) : w'.heap[b]? = some (.cells cs t fr) :=
  (h.blk b (Array.getElem?_eq_some_iff.1 hb).1 (.inr ⟨hd, fun cs' t' fr' he => by rw [hb] at he; cases he; exact ht⟩)).trans hb

theorem Fr.keepMap {B : Nat} {D : List Nat} {T : List TypeId} {w w' : World} (h : Fr B D T w w') {b : Nat} {es : Array MapEntry} {c : Nat} (hb : w.heap[b]? = some (.map es c)) (hd : b ∉ D) : w'.heap[b]? = some (.map es c) :=
  (h.blk b (Array.getElem?_eq_some_iff.1 hb).1 (.inr ⟨hd, fun cs' t' fr' he => by rw [hb] at he; cases he⟩)).trans hb

theorem Fr.ownsRow {B : Nat} {D : List Nat} {T : List TypeId} {w w' : World} (h : Fr B D T w w') {base : Nat} {e : TypeId} {size : Nat} {v : Value} {n : Nat} {xs : List Value} (ho : w.ownsRow base e size v n xs) (hd : ∀ k, v.ownBlock = some k → k ∉ D) (ht : e ∉ T) : w'.ownsRow base e size v n xs := by
  obtain ⟨h1, h2⟩ := ho
  refine ⟨h1, ?_⟩
  rcases h2 with h2 | ⟨g, cap, cur, hv, hg, hh, r⟩
  · exact Or.inl h2
  · exact Or.inr ⟨g, cap, cur, hv, hg, h.keep hh (hd g (by rw [hv]; rfl)) ht, r⟩

theorem Fr.ownsMap {H : Type} {B : Nat} {D : List Nat} {T : List TypeId} {w w' : World} (h : Fr B D T w w') {P : Program} {k : TypeId} {R : Value → Option (DataW H × List MemPlace)} {b n : Nat} {d : DataW H} (ho : w.ownsMap P k R b n d) (hd : b ∉ D) : w'.ownsMap P k R b n d := by
  obtain ⟨es, clock, hb, F, hs, hD⟩ := ho
  exact ⟨es, clock, h.keepMap hb hd, F, hs, hD⟩

/-! ### cells of a block that is known whole -/
theorem cell_blk {w : World} {b : Nat} {cs : Array Value} {t : TypeId} {fr : Nat × Nat} (h : w.heap[b]? = some (.cells cs t fr)) (o : Nat) : w.cell? ⟨b, o, none⟩ = cs[o]? := cell_of_row w b o cs t fr h

theorem free_blk {w : World} {b : Nat} {cs : Array Value} {t : TypeId} (h : w.heap[b]? = some (.cells cs t (0, 0))) (o : Nat) : w.frozen? ⟨b, o, none⟩ = false := frozen_of_row w b o cs t h

theorem set_blk {w : World} {b : Nat} {cs : Array Value} {t : TypeId} (h : w.heap[b]? = some (.cells cs t (0, 0))) (o : Nat) (v : Value) : (w.setCell ⟨b, o, none⟩ v).heap[b]? = some (.cells (cs.setIfInBounds o v) t (0, 0)) := heap_setCell_same w b o cs t v h

theorem set_other {w : World} {b k : Nat} (h : k ≠ b) (o : Nat) (v : Value) : (w.setCell ⟨b, o, none⟩ v).heap[k]? = w.heap[k]? := Below.heap_setCell _ _ _ _ h

theorem alloc_old {w : World} {b : Nat} {x : Obj} (o : Obj) (h : w.heap[b]? = some x) : (w.alloc o).heap[b]? = some x := (Below.heap_alloc w o b (Array.getElem?_eq_some_iff.1 h).1).trans h

theorem alloc_new (w : World) (o : Obj) : (w.alloc o).heap[w.heap.size]? = some o := by
  show (w.heap.push o)[w.heap.size]? = _
  simp

theorem lt_blk {w : World} {b : Nat} {x : Obj} (h : w.heap[b]? = some x) : b < w.heap.size := (Array.getElem?_eq_some_iff.1 h).1

/-- Two blocks of different element types are two. -/
theorem ne_blk {w : World} {a b : Nat} {cs cs' : Array Value} {t t' : TypeId} {fr fr' : Nat × Nat} (h : w.heap[a]? = some (.cells cs t fr)) (h' : w.heap[b]? = some (.cells cs' t' fr')) (hne : t ≠ t') : a ≠ b := by
  rintro rfl
  rw [h] at h'
  cases h'
  exact hne rfl

theorem ne_map {w : World} {a b : Nat} {cs : Array Value} {t : TypeId} {fr : Nat × Nat} {es : Array MapEntry} {c : Nat} (h : w.heap[a]? = some (.cells cs t fr)) (h' : w.heap[b]? = some (.map es c)) : a ≠ b := by
  rintro rfl
  rw [h] at h'
  cases h'

end Go.Proofs.YbulkeifqGreat
