/-
  FRAMES, BY A PREDICATE: 'S k o': block k, where it holds o, may have turned. No Go text in sight.
-/
import Derived.Test.YbulkeifqGreatFrame
namespace Go.Proofs.YbulkeifqGreat
open Go.RowKit
set_option linter.unusedVariables false

/-- Of what was there in w: what lies below B, and every block k that held an o with not S k o, is as it was. -/
structure Ch (B : Nat) (S : Nat → Obj → Prop) (w w' : World) : Prop where
  os : w'.os = w.os
  tape : w'.tape = w.tape
  output : w'.output = w.output
  size : w.heap.size ≤ w'.heap.size
  blk : ∀ k o, w.heap[k]? = some o → (k < B ∨ ¬ S k o) → w'.heap[k]? = some o

theorem Ch.refl (B : Nat) (S : Nat → Obj → Prop) (w : World) : Ch B S w w := ⟨rfl, rfl, rfl, Nat.le_refl _, fun _ _ h _ => h⟩

theorem Ch.mono {B : Nat} {S S' : Nat → Obj → Prop} {w w' : World} (h : Ch B S w w') (hS : ∀ k o, w.heap[k]? = some o → B ≤ k → S k o → S' k o) : Ch B S' w w' :=
  ⟨h.os, h.tape, h.output, h.size, fun k o hk hc => h.blk k o hk (by
    by_cases hb : k < B
    · exact .inl hb
    · rcases hc with hc | hc
      · exact .inl hc
      · exact .inr fun hs => hc (hS k o hk (by omega) hs))⟩

theorem Ch.trans {B : Nat} {S : Nat → Obj → Prop} {w w1 w2 : World} (h : Ch B S w w1) (g : Ch B S w1 w2) : Ch B S w w2 :=
  ⟨g.os.trans h.os, g.tape.trans h.tape, g.output.trans h.output, Nat.le_trans h.size g.size, fun k o hk hc => g.blk k o (h.blk k o hk hc) hc⟩

theorem Ch.below {B : Nat} {S : Nat → Obj → Prop} {w w' : World} (h : Ch B S w w') (hB : B ≤ w.heap.size) : Below B w w' :=
  ⟨h.os, h.tape, h.output, h.size, fun k hk => by
    obtain ⟨o, ho⟩ : ∃ o, w.heap[k]? = some o := ⟨w.heap[k]'(by omega), Array.getElem?_eq_getElem _⟩
    rw [ho]
    exact h.blk k o ho (.inl hk)⟩

theorem Ch.of_below {B : Nat} {S : Nat → Obj → Prop} {w w' : World} (h : Below w.heap.size w w') : Ch B S w w' :=
  ⟨h.os, h.tape, h.output, h.size, fun k o hk _ => (h.block k (lt_blk hk)).trans hk⟩

theorem Ch.of_fr {B : Nat} {D : List Nat} {T : List TypeId} {S : Nat → Obj → Prop} {w w' : World} (h : Fr B D T w w') (hS : ∀ k o, w.heap[k]? = some o → B ≤ k → (k ∈ D ∨ ∃ cs t fr, o = .cells cs t fr ∧ t ∈ T) → S k o) : Ch B S w w' :=
  ⟨h.os, h.tape, h.output, h.size, fun k o hk hc => (h.blk k (lt_blk hk) (by
    by_cases hb : k < B
    · exact .inl hb
    · rcases hc with hc | hc
      · exact .inl hc
      · refine .inr ⟨fun hd => hc (hS k o hk (by omega) (.inl hd)), fun cs t fr he ht => ?_⟩
        rw [hk] at he
        cases he
        exact hc (hS k _ hk (by omega) (.inr ⟨cs, t, fr, rfl, ht⟩)))).trans hk⟩

theorem Ch.of_grown {B : Nat} {S : Nat → Obj → Prop} {w w' : World} {row : Option Nat} (h : w.grownBy w' row) (hr : ∀ k, row = some k → B ≤ k ∧ ∀ o, w.heap[k]? = some o → S k o) : Ch B S w w' :=
  ⟨h.os, h.tape, h.output, h.size, fun k o hk hc => (h.block k (lt_blk hk) (fun e => by
    obtain ⟨h1, h2⟩ := hr k e.symm
    rcases hc with hc | hc
    · omega
    · exact hc (h2 o hk))).trans hk⟩

theorem Ch.alloc {B : Nat} {S : Nat → Obj → Prop} {w w' : World} (h : Ch B S w w') (o : Obj) : Ch B S w (w'.alloc o) :=
  h.trans (Ch.of_below ((Below.refl _ _).alloc (Nat.le_refl _) _))

theorem Ch.drew {B : Nat} {S : Nat → Obj → Prop} {w w' : World} (h : Ch B S w w') : Ch B S w w'.drew := h.trans (Ch.of_below (Below.refl _ _).drew)

theorem Ch.drewN {B : Nat} {S : Nat → Obj → Prop} {w w' : World} (h : Ch B S w w') (n : Nat) : Ch B S w (w'.drewN n) := h.trans (Ch.of_below (below_drewN (Below.refl _ _) n))

theorem Ch.later {B : Nat} {S : Nat → Obj → Prop} {w w' w2 : World} (h : Ch B S w w') (hb : Below w'.heap.size w' w2) : Ch B S w w2 := h.trans (Ch.of_below hb)

theorem Ch.setCell {B : Nat} {S : Nat → Obj → Prop} {w w' : World} (h : Ch B S w w') {b o : Nat} (ha : B ≤ b) (hs : ∀ x, w'.heap[b]? = some x → S b x) (v : Value) : Ch B S w (w'.setCell ⟨b, o, none⟩ v) := by
  refine h.trans ⟨rfl, rfl, rfl, by simp [World.setCell], fun k x hk hc => ?_⟩
  refine (Below.heap_setCell _ _ _ _ ?_).trans hk
  rintro rfl
  rcases hc with hc | hc
  · exact absurd hc (by simpa using ha)
  · exact hc (hs x hk)

/-- A store into a block that was not there when it began. -/
theorem Ch.setNew {B : Nat} {S : Nat → Obj → Prop} {w w' : World} (h : Ch B S w w') {b o : Nat} (ha : w.heap.size ≤ b) (v : Value) : Ch B S w (w'.setCell ⟨b, o, none⟩ v) :=
  ⟨h.os, h.tape, h.output, Nat.le_trans h.size (by simp [World.setCell]), fun k x hk hc => (Below.heap_setCell _ _ _ _ (by have := lt_blk hk; simp; omega)).trans (h.blk k x hk hc)⟩

theorem Ch.keep {B : Nat} {S : Nat → Obj → Prop} {w w' : World} (h : Ch B S w w') {b : Nat} {o : Obj} (hb : w.heap[b]? = some o) (hs : ¬ S b o) : w'.heap[b]? = some o := h.blk b o hb (.inr hs)

theorem Ch.ownsRow {B : Nat} {S : Nat → Obj → Prop} {w w' : World} (h : Ch B S w w') {base : Nat} {e : TypeId} {size : Nat} {v : Value} {n : Nat} {xs : List Value} (ho : w.ownsRow base e size v n xs) (hs : ∀ k cs, v.ownBlock = some k → ¬ S k (.cells cs e (0, 0))) : w'.ownsRow base e size v n xs := by
  obtain ⟨h1, h2⟩ := ho
  refine ⟨h1, ?_⟩
  rcases h2 with h2 | ⟨g, cap, cur, hv, hg, hh, r⟩
  · exact Or.inl h2
  · exact Or.inr ⟨g, cap, cur, hv, hg, h.keep hh (hs g cur (by rw [hv]; rfl)), r⟩

theorem Ch.ownsMap {H : Type} {B : Nat} {S : Nat → Obj → Prop} {w w' : World} (h : Ch B S w w') {P : Program} {k : TypeId} {R : Value → Option (DataW H × List MemPlace)} {b n : Nat} {d : DataW H} (ho : w.ownsMap P k R b n d) (hs : ∀ es c, ¬ S b (.map es c)) : w'.ownsMap P k R b n d := by
  obtain ⟨es, clock, hb, F, hs', hD⟩ := ho
  exact ⟨es, clock, h.keep hb (hs es clock), F, hs', hD⟩

end Go.Proofs.YbulkeifqGreat
