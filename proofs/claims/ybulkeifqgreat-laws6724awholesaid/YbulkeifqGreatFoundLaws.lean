/-
  THE CLOSURE of 'aggregate' (13): what it reads, and the laws of its steps. No walk.
-/
import Derived.Test.YbulkeifqGreatGroups
import Derived.WalkKit
import Derived.WalkSpells
import Derived.WalkLawsBesides
import Derived.Deep.RegionWith
import Derived.Deep.RegionHeld3
import Derived.Deep.QuietTactic
import Derived.BigQuiet
import Derived.Deep.DeepCutAuto
import Derived.Deep.CutBlock
import Derived.Maps.AppendAt
namespace Go.Proofs.YbulkeifqGreat
open Go.RowKit Go.Maps
set_option linter.unusedVariables false

/-- What the closure reads and never turns. -/
structure CF (w : World) (v0 v1 v2 v4 v5 RU HB GB RB KB GM M : Nat) (op rg : Int) (k v : Nat) : Prop where
  b0 : w.heap[v0]? = some (.cells #[.pointer (some ⟨RU, 0, none⟩)] 60 (0, 0))
  b1 : w.heap[v1]? = some (.cells #[.slice (some ⟨RB, 0, none⟩) 2 2] 26 (0, 0))
  b2 : w.heap[v2]? = some (.cells #[.slice (some ⟨KB, 0, none⟩) 2 2] 26 (0, 0))
  b4 : w.heap[v4]? = some (.cells #[.map (some GM)] 88 (0, 0))
  b5 : w.heap[v5]? = some (.cells #[.pointer (some ⟨M, 0, none⟩)] 85 (0, 0))
  ru : ∃ cs, w.heap[RU]? = some (.cells cs 71 (0, 0)) ∧ cs[15]? = some (.slice (some ⟨HB, 0, none⟩) 2 2) ∧ cs[16]? = some (.slice (some ⟨GB, 0, none⟩) 1 1)
  hb : w.heap[HB]? = some (.cells #[.int .i64 0, .int .u32 0, .int .i64 1, .int .u32 0] 49 (0, 0))
  gb : w.heap[GB]? = some (.cells #[.int .i64 1, .int .u8 op, .int .i64 rg] 59 (0, 0))
  rb : w.heap[RB]? = some (.cells #[.int .u32 k, .int .u32 v] 35 (0, 0))
  ne : RB ≠ KB

theorem CF.keep {w w' : World} {v0 v1 v2 v4 v5 RU HB GB RB KB GM M : Nat} {op rg : Int} {k v : Nat} (h : CF w v0 v1 v2 v4 v5 RU HB GB RB KB GM M op rg k v) {B : Nat} {S : Nat → Obj → Prop} (c : Ch B S w w')
    (ht : ∀ b cs t, t = 60 ∨ t = 26 ∨ t = 88 ∨ t = 85 ∨ t = 71 ∨ t = 49 ∨ t = 59 → w.heap[b]? = some (.cells cs t (0, 0)) → ¬ S b (.cells cs t (0, 0))) (hr : ∀ cs, ¬ S RB (.cells cs 35 (0, 0))) : CF w' v0 v1 v2 v4 v5 RU HB GB RB KB GM M op rg k v := by
  obtain ⟨cs, r1, r2⟩ := h.ru
  exact ⟨c.keep h.b0 (ht _ _ _ (by simp) h.b0), c.keep h.b1 (ht _ _ _ (by simp) h.b1), c.keep h.b2 (ht _ _ _ (by simp) h.b2), c.keep h.b4 (ht _ _ _ (by simp) h.b4), c.keep h.b5 (ht _ _ _ (by simp) h.b5), ⟨cs, c.keep r1 (ht _ _ _ (by simp) r1), r2⟩, c.keep h.hb (ht _ _ _ (by simp) h.hb), c.keep h.gb (ht _ _ _ (by simp) h.gb), c.keep h.rb (hr _), h.ne⟩

theorem CF.cells {w : World} {v0 v1 v2 v4 v5 RU HB GB RB KB GM M : Nat} {op rg : Int} {k v : Nat} (h : CF w v0 v1 v2 v4 v5 RU HB GB RB KB GM M op rg k v) :
    w.cell? ⟨v0, 0, none⟩ = some (.pointer (some ⟨RU, 0, none⟩)) ∧ w.cell? ⟨v1, 0, none⟩ = some (.slice (some ⟨RB, 0, none⟩) 2 2) ∧ w.cell? ⟨v2, 0, none⟩ = some (.slice (some ⟨KB, 0, none⟩) 2 2) ∧
    w.cell? ⟨v4, 0, none⟩ = some (.map (some GM)) ∧ w.cell? ⟨v5, 0, none⟩ = some (.pointer (some ⟨M, 0, none⟩)) ∧ w.cell? ⟨RU, 15, none⟩ = some (.slice (some ⟨HB, 0, none⟩) 2 2) ∧ w.cell? ⟨RU, 16, none⟩ = some (.slice (some ⟨GB, 0, none⟩) 1 1) ∧
    w.cell? ⟨RB, 0, none⟩ = some (.int .u32 k) ∧ w.cell? ⟨RB, 1, none⟩ = some (.int .u32 v) := by
  obtain ⟨rcs, r71, r15, r16⟩ := h.ru
  refine ⟨?_, ?_, ?_, ?_, ?_, ?_, ?_, ?_, ?_⟩
  · rw [cell_blk h.b0]; rfl
  · rw [cell_blk h.b1]; rfl
  · rw [cell_blk h.b2]; rfl
  · rw [cell_blk h.b4]; rfl
  · rw [cell_blk h.b5]; rfl
  · rw [cell_blk r71]; exact r15
  · rw [cell_blk r71]; exact r16
  · rw [cell_blk h.rb]; rfl
  · rw [cell_blk h.rb]; rfl

theorem CF.hcells {w : World} {v0 v1 v2 v4 v5 RU HB GB RB KB GM M : Nat} {op rg : Int} {k v : Nat} (h : CF w v0 v1 v2 v4 v5 RU HB GB RB KB GM M op rg k v) :
    w.cell? ⟨HB, 0, none⟩ = some (.int .i64 0) ∧ w.cell? ⟨HB, 1, none⟩ = some (.int .u32 0) ∧ w.cell? ⟨HB, 2, none⟩ = some (.int .i64 1) ∧ w.cell? ⟨HB, 3, none⟩ = some (.int .u32 0) := by
  refine ⟨?_, ?_, ?_, ?_⟩ <;> (rw [cell_blk h.hb]; rfl)

/-- Block b of cells of type t. -/
def OnB (b : Nat) (t : TypeId) (k : Nat) (o : Obj) : Prop := k = b ∧ ∃ cs fr, o = .cells cs t fr

theorem CF.keepB {w w' : World} {v0 v1 v2 v4 v5 RU HB GB RB KB GM M : Nat} {op rg : Int} {k v : Nat} (h : CF w v0 v1 v2 v4 v5 RU HB GB RB KB GM M op rg k v) (c : Ch 0 (OnB KB 35) w w') : CF w' v0 v1 v2 v4 v5 RU HB GB RB KB GM M op rg k v :=
  h.keep c (fun b cs t ht _ hs => by obtain ⟨_, cs', fr, e⟩ := hs; cases e; simp at ht) (fun cs hs => h.ne hs.1)

theorem CF.up {w w' : World} {v0 v1 v2 v4 v5 RU HB GB RB KB GM M : Nat} {op rg : Int} {k v : Nat} (h : CF w v0 v1 v2 v4 v5 RU HB GB RB KB GM M op rg k v) (c : Below w.heap.size w w') : CF w' v0 v1 v2 v4 v5 RU HB GB RB KB GM M op rg k v :=
  h.keep (Ch.of_below (B := 0) (S := fun _ _ => False) c) (by simp) (by simp)

/-- One more register read into the key. -/
theorem key_step {w Z Y : World} {KB i : Nat} {o1 o2 : Obj} {cs : Array Value} {x : Value} (hZ : Z = w.alloc o1) (hY : Y = ((Z.setCell ⟨KB, i, none⟩ x).alloc o2).drew) (hKB : w.heap[KB]? = some (.cells cs 35 (0, 0))) :
    Y.heap[KB]? = some (.cells (cs.setIfInBounds i x) 35 (0, 0)) ∧ Ch 0 (OnB KB 35) w Y := by
  subst hZ hY
  have h1 := alloc_old o1 hKB
  refine ⟨alloc_old o2 (set_blk h1 i x), ((((Ch.refl _ _ _).alloc _).setCell (Nat.zero_le _) (fun y hy => ?_) _).alloc _).drew⟩
  rw [h1] at hy
  cases hy
  exact ⟨rfl, _, _, rfl⟩

theorem cell_sa {Z : World} {KB i b o : Nat} {x v : Value} {o2 : Obj} (h : Z.cell? ⟨b, o, none⟩ = some v) (hne : b ≠ KB) : ((Z.setCell ⟨KB, i, none⟩ x).alloc o2).drew.cell? ⟨b, o, none⟩ = some v := by
  refine cell_up o2 ?_
  unfold World.cell? at h ⊢
  rw [set_other hne]
  exact h


theorem ch_cell {B : Nat} {S : Nat → Obj → Prop} {w w' : World} (c : Ch B S w w') {b o : Nat} {x : Obj} {v : Value} (hb : w.heap[b]? = some x) (hs : ¬ S b x) (hv : w.cell? ⟨b, o, none⟩ = some v) : w'.cell? ⟨b, o, none⟩ = some v := by
  have h2 := c.keep hb hs
  unfold World.cell? at hv ⊢
  rw [h2]
  rw [hb] at hv
  exact hv

theorem keyOf9 (k : Nat) : keyOf Ybaz.prog 9 (.string (strOfNums (kNums k))) = some (kLit k)   := WideMaps.keyOf_string_mk Ybaz.underlying9 (by rw [strOfNums_size]; simp [kNums, le32, maxLen])
theorem key9 : Keyed Ybaz.prog 9 := string_keyed Ybaz.underlying9
theorem zero93 (w : World) : (zeroValue 93).run Ybaz.prog w = .ok (.pointer none) w := by kernel_rfl

/-- The key's bytes, read as a string. -/
theorem conv_key {X : World} {B : Nat} {ao : Option Addr} {cap k : Nat} (h : X.ownsRow B 5 1 (.slice ao 8 cap) 8 ((le32 k).map (Value.int .u8) ++ (le32 0).map (Value.int .u8))) :
    (convert 79 9 (.slice ao 8 cap)).run Ybaz.prog X = .ok (.string (strOfNums (kNums k))) X := by
  obtain ⟨ao', c', he, _, hx⟩ := ownsRow_shape h
  rcases h.2 with ⟨h', h0⟩ | ⟨g, cap', cur, h', hb, hg, _, hm, hs, _⟩
  · omega
  · simp only [Value.slice.injEq] at h'
    obtain ⟨rfl, _, rfl⟩ := h'
    refine run_convert_bytes_arg X 79 5 Ybaz.underlying79 Ybaz.underlying5 g 0 8 cap (kNums k) (by simp [kNums, le32]) (fun i hi => ?_) 9 Ybaz.underlying9
    have := h.cellAt i (by omega)
    rw [Nat.zero_add, this]
    have e : (le32 (k : Int)).map (Value.int .u8) ++ (le32 0).map (Value.int .u8) = (kNums k).map (Value.int .u8) := by simp [kNums]
    have hl : i < (kNums k).length := by simpa [kNums, le32] using hi
    rw [e, List.getElem?_map, List.getD_eq_getElem?_getD, List.getElem?_eq_getElem hl]
    rfl

theorem Ch.zero {B : Nat} {S : Nat → Obj → Prop} {w w' : World} (h : Ch B S w w') : Ch 0 (fun k o => B ≤ k ∧ S k o) w w' :=
  ⟨h.os, h.tape, h.output, h.size, fun k o hk hc => h.blk k o hk (by
    rcases hc with hc | hc
    · omega
    · by_cases hb : k < B
      · exact .inl hb
      · exact .inr fun hs => hc ⟨by omega, hs⟩)⟩


/-- The state of the aggregation: the groups L, after at most N rows. -/
structure ASt (w : World) (v3 v6 KB GM G0 : Nat) (op rg : Int) (vs : List Int) (N : Nat) (L : List GR) : Prop where
  kb : ∃ x0 x1, w.heap[KB]? = some (.cells #[x0, x1] 35 (0, 0))
  by3 : ∃ ao n cap xs, n ≤ 1000 ∧ w.heap[v3]? = some (.cells #[.slice ao n cap] 79 (0, 0)) ∧ w.ownsRow G0 5 1 (.slice ao n cap) n xs
  ord : ∃ ov, w.heap[v6]? = some (.cells #[ov] 89 (0, 0)) ∧ w.ownsRow G0 93 1 ov L.length (L.map fun g => .pointer (some ⟨g.gb, 0, none⟩))
  map : ∃ D, w.ownsMap Ybaz.prog 9 Rg GM L.length D ∧ MapOK D L
  grps : ∃ top, top ≤ w.heap.size ∧ Grps w op rg vs G0 top L
  all : ∀ g ∈ L, g.k < vs.length ∧ g.xs ≠ [] ∧ g.xs.length ≤ N ∧ ∀ x ∈ g.xs, x < vs.length
  len : L.length ≤ N
  low : KB < G0 ∧ v3 < G0 ∧ v6 < G0 ∧ GM < G0 ∧ G0 ≤ w.heap.size

def Tg (t : TypeId) (o : Obj) : Prop := ∃ cs fr, o = .cells cs t fr

/-- What 'found' may turn. -/
def OnC (KB v3 v6 GM G0 : Nat) (b : Nat) (o : Obj) : Prop :=
  (b = KB ∧ Tg 35 o) ∨ (b = v3 ∧ Tg 79 o) ∨ (b = v6 ∧ Tg 89 o) ∨ (b = GM ∧ ∃ es c, o = .map es c) ∨ (G0 ≤ b ∧ (Tg 5 o ∨ Tg 93 o ∨ GTag o))

/-- The key's bytes have been made anew. -/
def OnKey (KB v3 G0 : Nat) (b : Nat) (o : Obj) : Prop := OnB KB 35 b o ∨ OnB v3 79 b o ∨ (G0 ≤ b ∧ OnBytes b o)

theorem onKey_C {KB v3 v6 GM G0 b : Nat} {o : Obj} (h : OnKey KB v3 G0 b o) : OnC KB v3 v6 GM G0 b o := by
  rcases h with ⟨rfl, h⟩ | ⟨rfl, h⟩ | ⟨h1, h2⟩
  · exact .inl ⟨rfl, h⟩
  · exact .inr (.inl ⟨rfl, h⟩)
  · exact .inr (.inr (.inr (.inr ⟨h1, .inl h2⟩)))

theorem onKey_grp {KB v3 G0 b : Nat} {o : Obj} (hK : KB < G0) (hG : G0 ≤ b) (hg : GTag o) : ¬ OnKey KB v3 G0 b o := by
  rintro (⟨rfl, h⟩ | ⟨rfl, ⟨cs, fr, rfl⟩⟩ | ⟨h1, ⟨cs, fr, rfl⟩⟩)
  · omega
  · rcases hg with ⟨cs', t, fr', e, ht⟩ | ⟨es, c, e⟩
    · cases e; simp at ht
    · cases e
  · rcases hg with ⟨cs', t, fr', e, ht⟩ | ⟨es, c, e⟩
    · cases e; simp at ht
    · cases e

theorem Mach.ch {w w' : World} {B M I : Nat} {vs : List Int} {cur : Value} {work : Int} {B' : Nat} {S : Nat → Obj → Prop} (h : Mach w B M I vs cur work) (c : Ch B' S w w') (h31 : ∀ cs, ¬ S M (.cells cs 31 (0, 0))) (h39 : ∀ b cs, ¬ S b (.cells cs 39 (0, 0))) (hI : ∀ es ck, ¬ S I (.map es ck)) : Mach w' B M I vs cur work := by
  obtain ⟨vv, h1, h2⟩ := h.blk
  obtain ⟨d, h3, h4⟩ := h.ids
  exact ⟨⟨vv, c.keep h1 (h31 _), c.ownsRow h2 (fun k cs _ => h39 k cs)⟩, ⟨d, c.ownsMap h3 hI, h4⟩, h.nodup, h.wf, h.len, h.lo⟩

theorem not_key {KB v3 G0 b : Nat} {cs : Array Value} {t : TypeId} {fr : Nat × Nat} (h1 : t ≠ 35) (h2 : t ≠ 79) (h3 : t ≠ 5) : ¬ OnKey KB v3 G0 b (.cells cs t fr) := by
  rintro (⟨rfl, cs', fr', e⟩ | ⟨rfl, cs', fr', e⟩ | ⟨_, cs', fr', e⟩) <;> cases e <;> simp at h1 h2 h3

theorem not_key_map {KB v3 G0 b : Nat} {es : Array MapEntry} {ck : Nat} : ¬ OnKey KB v3 G0 b (.map es ck) := by
  rintro (⟨rfl, cs', fr', e⟩ | ⟨rfl, cs', fr', e⟩ | ⟨_, cs', fr', e⟩) <;> cases e

theorem not_grp {lo hi b : Nat} {cs : Array Value} {t : TypeId} {fr : Nat × Nat} (h1 : t ≠ 117) (h2 : t ≠ 119) (h3 : t ≠ 35) : ¬ OnGrp lo hi b (.cells cs t fr) := by
  rintro ⟨_, _, ⟨cs', t', fr', e, ht⟩ | ⟨es, c, e⟩⟩
  · cases e; rcases ht with ht | ht | ht <;> contradiction
  · cases e

theorem not_grp_lt {lo hi b : Nat} {o : Obj} (h : b < lo) : ¬ OnGrp lo hi b o := fun hs => by have := hs.1; omega

theorem onGrp_C {KB v3 v6 GM G0 lo hi b : Nat} {o : Obj} (hl : G0 ≤ lo) (h : OnGrp lo hi b o) : OnC KB v3 v6 GM G0 b o := .inr (.inr (.inr (.inr ⟨by have := h.1; omega, .inr (.inr h.2.2)⟩)))

theorem CF.key {w w' : World} {v0 v1 v2 v4 v5 RU HB GB RB KB GM M v3 G0 : Nat} {op rg : Int} {k v : Nat} (h : CF w v0 v1 v2 v4 v5 RU HB GB RB KB GM M op rg k v) (c : Ch 0 (OnKey KB v3 G0) w w') (hR : RB < G0) : CF w' v0 v1 v2 v4 v5 RU HB GB RB KB GM M op rg k v :=
  h.keep c (fun b cs t ht _ => by
    refine not_key ?_ ?_ ?_ <;> (rintro rfl; simp at ht)) (fun cs hs => by
    rcases hs with ⟨e, _⟩ | ⟨rfl, cs', fr', e⟩ | ⟨_, cs', fr', e⟩
    · exact h.ne e
    · cases e
    · cases e)

theorem CF.grp {w w' : World} {v0 v1 v2 v4 v5 RU HB GB RB KB GM M lo hi : Nat} {op rg : Int} {k v : Nat} (h : CF w v0 v1 v2 v4 v5 RU HB GB RB KB GM M op rg k v) (c : Ch 0 (OnGrp lo hi) w w') (hR : RB < lo) : CF w' v0 v1 v2 v4 v5 RU HB GB RB KB GM M op rg k v :=
  h.keep c (fun b cs t ht _ => by
    refine not_grp ?_ ?_ ?_ <;> (rintro rfl; simp at ht)) (fun cs => not_grp_lt hR)

theorem ast_hit {w X w' : World} {v3 v6 KB GM G0 N : Nat} {op rg : Int} {vs : List Int} {L A C : List GR} {g : GR} {v : Nat} {x0 x1 : Value} {ao : Option Addr} {cap : Nat} {xs : List Value} (hA : ASt w v3 v6 KB GM G0 op rg vs N L) (hC : Ch 0 (OnKey KB v3 G0) w X)
    (hK : X.heap[KB]? = some (.cells #[x0, x1] 35 (0, 0))) (h3 : X.heap[v3]? = some (.cells #[.slice ao 8 cap] 79 (0, 0))) (hown : X.ownsRow G0 5 1 (.slice ao 8 cap) 8 xs) (hL : L = A ++ g :: C) (hv : v < vs.length)
    (hG : Grp w' g.lo g.hi op rg vs g.gb g.k (g.xs ++ [v])) (cA : Ch 0 (OnGrp g.lo g.hi) X w') :
    ASt w' v3 v6 KB GM G0 op rg vs (N + 1) (A ++ { g with xs := g.xs ++ [v] } :: C) ∧ Ch 0 (OnC KB v3 v6 GM G0) w w' := by
  subst hL
  obtain ⟨hk1, hk2, hk3, hk4, hk5⟩ := hA.low
  obtain ⟨ov, o1, o2⟩ := hA.ord
  obtain ⟨D, m1, m2⟩ := hA.map
  obtain ⟨top, t1, t2⟩ := hA.grps
  obtain ⟨s1, s2, s3, s4⟩ := Grps.split.1 t2
  have hlo := s1.le
  have htop := s4.le
  have sC : Ch 0 (OnC KB v3 v6 GM G0) w w' := (hC.mono (fun _ _ _ _ h => onKey_C h)).trans (cA.mono (fun _ _ _ _ h => onGrp_C hlo h))
  refine ⟨⟨⟨x0, x1, cA.keep hK (not_grp_lt (by omega))⟩, ⟨ao, 8, cap, xs, by omega, cA.keep h3 (not_grp_lt (by omega)), cA.ownsRow hown (fun b cs _ => not_grp (by decide) (by decide) (by decide))⟩, ⟨ov, cA.keep (hC.keep o1 (not_key (by decide) (by decide) (by decide))) (not_grp_lt (by omega)), ?_⟩, ⟨D, ?_, mapOK_turn m2 rfl rfl⟩, ⟨top, ?_, ?_⟩, ?_, ?_, ⟨hk1, hk2, hk3, hk4, ?_⟩⟩, sC⟩
  · have := cA.ownsRow (hC.ownsRow o2 (fun b cs _ => not_key (by decide) (by decide) (by decide))) (fun b cs _ => not_grp (by decide) (by decide) (by decide))
    simpa using this
  · have := cA.ownsMap (hC.ownsMap m1 (fun es ck => not_key_map)) (fun es ck => not_grp_lt (by omega))
    simpa using this
  · exact Nat.le_trans t1 (Nat.le_trans hC.size cA.size)
  · refine Grps.split.2 ⟨?_, s2, hG, ?_⟩
    · exact (s1.keep hC (fun b o a _ hg => onKey_grp hk1 a hg)).keep cA (fun b o a b' hg => not_grp_lt b')
    · exact (s4.keep hC (fun b o a _ hg => onKey_grp hk1 (by omega) hg)).keep cA (fun b o a b' hg hs => by have := hs.2.1; omega)
  · intro q hq
    simp at hq
    rcases hq with hq | rfl | hq
    · obtain ⟨a1, a2, a3, a4⟩ := hA.all q (by simp [hq])
      exact ⟨a1, a2, by omega, a4⟩
    · obtain ⟨a1, a2, a3, a4⟩ := hA.all g (by simp)
      refine ⟨a1, by simp, by simp; omega, fun x hx => ?_⟩
      simp at hx
      rcases hx with hx | rfl
      · exact a4 x hx
      · exact hv
    · obtain ⟨a1, a2, a3, a4⟩ := hA.all q (by simp [hq])
      exact ⟨a1, a2, by omega, a4⟩
  · have := hA.len
    simp at this ⊢
    omega
  · exact Nat.le_trans hk5 (Nat.le_trans hC.size cA.size)

theorem key_mid {w X w15 : World} {v0 v1 v2 v3 v4 v5 RU HB GB RB KB GM M G0 : Nat} {op rg : Int} {k v : Nat} {av : Value} {ao' : Option Addr} {cap' : Nat} {xs : List Value} (hc : CF X v0 v1 v2 v4 v5 RU HB GB RB KB GM M op rg k v) (hK : X.heap[KB]? = some (.cells #[.int .u32 k, .int .u32 v] 35 (0, 0))) (hC : Ch 0 (OnB KB 35) w X)
    (h3 : X.heap[v3]? = some (.cells #[av] 79 (0, 0))) (C15 : Ch 0 (fun b o => G0 ≤ b ∧ OnBytes b o) X w15) (own15 : w15.ownsRow G0 5 1 (.slice ao' 8 cap') 8 xs) (hR : RB < G0) (hKG : KB < G0) :
    CF (w15.setCell ⟨v3, 0, none⟩ (.slice ao' 8 cap')) v0 v1 v2 v4 v5 RU HB GB RB KB GM M op rg k v ∧ (w15.setCell ⟨v3, 0, none⟩ (.slice ao' 8 cap')).heap[KB]? = some (.cells #[.int .u32 k, .int .u32 v] 35 (0, 0)) ∧
    (∃ ao'' cap'', (w15.setCell ⟨v3, 0, none⟩ (.slice ao' 8 cap')).heap[v3]? = some (.cells #[.slice ao'' 8 cap''] 79 (0, 0)) ∧ (w15.setCell ⟨v3, 0, none⟩ (.slice ao' 8 cap')).ownsRow G0 5 1 (.slice ao'' 8 cap'') 8 xs) ∧ Ch 0 (OnKey KB v3 G0) w (w15.setCell ⟨v3, 0, none⟩ (.slice ao' 8 cap')) := by
  have h15 : w15.heap[v3]? = some (.cells #[av] 79 (0, 0)) := C15.keep h3 (by rintro ⟨_, cs, fr, e⟩; cases e)
  have hK15 : w15.heap[KB]? = some (.cells #[.int .u32 k, .int .u32 v] 35 (0, 0)) := C15.keep hK (by rintro ⟨_, cs, fr, e⟩; cases e)
  have cK : Ch 0 (OnKey KB v3 G0) X (w15.setCell ⟨v3, 0, none⟩ (.slice ao' 8 cap')) := (C15.mono (fun b o _ _ h => .inr (.inr h))).setCell (Nat.zero_le _) (fun x hx => by rw [h15] at hx; cases hx; exact .inr (.inl ⟨rfl, _, _, rfl⟩)) _
  refine ⟨hc.key cK hR, (set_other (ne_blk hK15 h15 (by decide)) _ _).trans hK15, ⟨ao', cap', ?_, setCell_row own15 h15 (by decide) _⟩, (hC.mono (fun b o _ _ h => .inl h)).trans cK⟩
  rw [set_blk h15]
  rfl

/-- A group is made, laid into the map and behind the others. -/
def OnN (GM v6 G0 : Nat) (b : Nat) (o : Obj) : Prop := (b = GM ∧ ∃ es c, o = .map es c) ∨ (G0 ≤ b ∧ Tg 93 o) ∨ (b = v6 ∧ Tg 89 o)

theorem onN_C {KB v3 v6 GM G0 b : Nat} {o : Obj} (h : OnN GM v6 G0 b o) : OnC KB v3 v6 GM G0 b o := by
  rcases h with h | ⟨h1, h2⟩ | h
  · exact .inr (.inr (.inr (.inl h)))
  · exact .inr (.inr (.inr (.inr ⟨h1, .inr (.inl h2)⟩)))
  · exact .inr (.inr (.inl h))

theorem onN_grp {GM v6 G0 b : Nat} {o : Obj} (hM : GM < G0) (hG : G0 ≤ b) (hg : GTag o) : ¬ OnN GM v6 G0 b o := by
  rintro (⟨rfl, _⟩ | ⟨_, cs, fr, rfl⟩ | ⟨rfl, cs, fr, rfl⟩)
  · omega
  · rcases hg with ⟨cs', t, fr', e, ht⟩ | ⟨es, c, e⟩
    · cases e; simp at ht
    · cases e
  · rcases hg with ⟨cs', t, fr', e, ht⟩ | ⟨es, c, e⟩
    · cases e; simp at ht
    · cases e

theorem not_N {GM v6 G0 b : Nat} {cs : Array Value} {t : TypeId} {fr : Nat × Nat} (h1 : t ≠ 93) (h2 : t ≠ 89) : ¬ OnN GM v6 G0 b (.cells cs t fr) := by
  rintro (⟨rfl, es, c, e⟩ | ⟨_, cs', fr', e⟩ | ⟨rfl, cs', fr', e⟩) <;> cases e <;> simp at h1 h2

theorem CF.n {w w' : World} {v0 v1 v2 v4 v5 RU HB GB RB KB GM M v6 G0 : Nat} {op rg : Int} {k v : Nat} (h : CF w v0 v1 v2 v4 v5 RU HB GB RB KB GM M op rg k v) (c : Ch 0 (OnN GM v6 G0) w w') : CF w' v0 v1 v2 v4 v5 RU HB GB RB KB GM M op rg k v :=
  h.keep c (fun b cs t ht _ => by refine not_N ?_ ?_ <;> (rintro rfl; simp at ht)) (fun cs => not_N (by decide) (by decide))

theorem ast_new {w X Y w' : World} {v3 v6 KB GM G0 N : Nat} {op rg : Int} {vs : List Int} {L : List GR} {k v gb hi hi' : Nat} {D : DataW Unit} {x0 x1 : Value} {ao : Option Addr} {cap : Nat} {xs : List Value} (hA : ASt w v3 v6 KB GM G0 op rg vs N L) (hC : Ch 0 (OnKey KB v3 G0) w X)
    (hK : X.heap[KB]? = some (.cells #[x0, x1] 35 (0, 0))) (h3 : X.heap[v3]? = some (.cells #[.slice ao 8 cap] 79 (0, 0))) (hown : X.ownsRow G0 5 1 (.slice ao 8 cap) 8 xs) (hno : ∀ g ∈ L, g.k ≠ k) (hv : v < vs.length) (hk : k < vs.length) (hkl : k < 4294967296)
    (cN : Ch 0 (OnN GM v6 G0) X Y) (ordY : ∃ ov, Y.heap[v6]? = some (.cells #[ov] 89 (0, 0)) ∧ Y.ownsRow G0 93 1 ov (L.length + 1) (L.map (fun g => .pointer (some ⟨g.gb, 0, none⟩)) ++ [.pointer (some ⟨gb, 0, none⟩)]))
    (hD : MapOK D L) (hDm : Maps.IsMap D) (mapY : Y.ownsMap Ybaz.prog 9 Rg GM (L.length + 1) (D.put (kLit k) (.lit (.int .i64 gb)))) (hG : Grp w' X.heap.size hi' op rg vs gb k [v]) (hhi : X.heap.size ≤ hi') (hhi2 : hi' ≤ w'.heap.size) (cA : Ch 0 (OnGrp X.heap.size hi) Y w') :
    ASt w' v3 v6 KB GM G0 op rg vs (N + 1) (L ++ [⟨gb, X.heap.size, hi', k, [v]⟩]) ∧ Ch 0 (OnC KB v3 v6 GM G0) w w' := by
  obtain ⟨hk1, hk2, hk3, hk4, hk5⟩ := hA.low
  obtain ⟨top, t1, t2⟩ := hA.grps
  obtain ⟨ov, o1, o2⟩ := ordY
  have hs := hC.size
  have sC : Ch 0 (OnC KB v3 v6 GM G0) w w' := ((hC.mono (fun _ _ _ _ h => onKey_C h)).trans (cN.mono (fun _ _ _ _ h => onN_C h))).trans (cA.mono (fun _ _ _ _ h => onGrp_C (by omega) h))
  refine ⟨⟨⟨x0, x1, cA.keep (cN.keep hK (not_N (by decide) (by decide))) (not_grp_lt (by omega))⟩, ⟨ao, 8, cap, xs, by omega, cA.keep (cN.keep h3 (not_N (by decide) (by decide))) (not_grp_lt (by omega)), cA.ownsRow (cN.ownsRow hown (fun b cs _ => not_N (by decide) (by decide))) (fun b cs _ => not_grp (by decide) (by decide) (by decide))⟩, ⟨ov, cA.keep o1 (not_grp_lt (by omega)), ?_⟩, ⟨_, ?_, mapOK_put (g := ⟨gb, X.heap.size, hi', k, [v]⟩) hD hDm hkl hno⟩, ⟨w'.heap.size, Nat.le_refl _, ?_⟩, ?_, ?_, ⟨hk1, hk2, hk3, hk4, ?_⟩⟩, sC⟩
  · have := cA.ownsRow o2 (fun b cs _ => not_grp (by decide) (by decide) (by decide))
    simpa using this
  · have := cA.ownsMap mapY (fun es ck => not_grp_lt (by omega))
    simpa using this
  · refine Grps.split.2 ⟨?_, hhi, hG, hhi2⟩
    exact (((t2.top (Nat.le_trans t1 hs)).keep hC (fun b o a _ hg => onKey_grp hk1 a hg)).keep cN (fun b o a _ hg => onN_grp hk4 a hg)).keep cA (fun b o a b' hg => not_grp_lt b')
  · intro q hq
    simp at hq
    rcases hq with hq | rfl
    · obtain ⟨a1, a2, a3, a4⟩ := hA.all q hq
      exact ⟨a1, a2, by omega, a4⟩
    · refine ⟨hk, by simp, by simp, fun x hx => ?_⟩
      simp at hx
      rw [hx]
      exact hv
  · have := hA.len
    simp
    omega
  · exact Nat.le_trans hk5 (Nat.le_trans hs (Nat.le_trans cN.size cA.size))

theorem info93 : (Ybaz.prog.info? 93).map (fun i => (i.zero, i.size, i.bytes)) = some (some (.pointer none), 1, 8) := by kernel_rfl

theorem ptr_nil (w : World) : (binOp .eql 93 (.pointer none) (.pointer none)).run Ybaz.prog w = .ok (.bool true) w := by kernel_rfl

theorem on_own' {w : World} {B : Nat} {e : TypeId} {size : Nat} {v : Value} {n : Nat} {xs : List Value} (h : w.ownsRow B e size v n xs) : ∀ k, v.ownBlock = some k → ∃ cs, w.heap[k]? = some (.cells cs e (0, 0)) := by
  intro k hk
  rcases h.2 with ⟨rfl, _⟩ | ⟨g, cap, cur, rfl, hb, hg, _⟩
  · cases hk
  · cases hk
    exact ⟨_, hg⟩

theorem mid_pre {W w10 : World} {GM v6 G0 n : Nat} {D : DataW Unit} {ov : Value} {xs : List Value} (hmp : W.ownsMap Ybaz.prog 9 Rg GM n D) (hgr : W.grownBy w10 (some GM)) (h6 : W.heap[v6]? = some (.cells #[ov] 89 (0, 0))) (ho : W.ownsRow G0 93 1 ov n xs) :
    w10.heap[v6]? = some (.cells #[ov] 89 (0, 0)) ∧ w10.ownsRow G0 93 1 ov n xs := by
  obtain ⟨es, ck, hm, _⟩ := hmp
  refine ⟨(hgr.block v6 (lt_blk h6) (fun e => by cases e; exact ne_map h6 hm rfl)).trans h6, ?_⟩
  refine (Ch.of_grown (B := 0) (S := fun b x => b = GM) hgr (fun b e => by cases e; exact ⟨Nat.zero_le _, fun _ _ => rfl⟩)).ownsRow ho (fun b cs hb e => ?_)
  subst e
  obtain ⟨cs2, hc2⟩ := (on_own' ho b hb)
  exact ne_map hc2 hm rfl

theorem mid_11 {w10 w11 : World} {v6 G0 n : Nat} {ov : Value} {xs : List Value} {o : Obj} (h6 : w10.heap[v6]? = some (.cells #[ov] 89 (0, 0))) (ho : w10.ownsRow G0 93 1 ov n xs) (hgr : (w10.alloc o).grownBy w11 ov.ownBlock) : w11.heap[v6]? = some (.cells #[ov] 89 (0, 0)) :=
  grown_keep hgr (alloc_old _ h6) (fun k hk => by
    obtain ⟨cs, hcs⟩ := on_own' (ho.alloc o) k hk
    exact ⟨cs, 93, (0, 0), hcs, by decide⟩)

theorem grp_fresh {w : World} {lo gb hb hc sb bb k v : Nat} {op rg : Int} {vs : List Int} (n1 : w.heap[gb]? = some (.cells #[.slice (some ⟨hb, 0, none⟩) 2 hc, .int .i64 0, .slice (some ⟨sb, 0, none⟩) 1 1, .slice (some ⟨bb, 0, none⟩) 1 1, .slice none 0 0] 117 (0, 0)))
    (n2 : w.ownsRow lo 35 1 (.slice (some ⟨hb, 0, none⟩) 2 hc) 2 [.int .u32 k, .int .u32 v]) (n3 : w.heap[sb]? = some (.cells #[.map none] 119 (0, 0))) (n4 : w.heap[bb]? = some (.cells #[.int .u32 0] 35 (0, 0))) (n5 : hb ≠ bb) (l1 : lo ≤ gb) (l3 : lo ≤ sb) (l4 : lo ≤ bb) :
    Grp w lo w.heap.size op rg vs gb k [] :=
  ⟨hb, hc, sb, bb, v, .map none, 0, by simpa using n1, n2, n3, by simpa using n4, n5, ⟨l1, lt_blk n1, (own_lt n2).1, l3, lt_blk n3, l4, lt_blk n4⟩, fun _ _ => .inl ⟨rfl, rfl⟩, fun _ h => absurd rfl h⟩

/-- From the new group to the store into 'order'. -/
theorem mid_new {W w10 w11 : World} {GM v6 G0 gb : Nat} {L : List GR} {D D' : DataW Unit} {n1 : Nat} {ov v' : Value} {o : Obj} (hmp : W.ownsMap Ybaz.prog 9 Rg GM L.length D) (hgr : W.grownBy w10 (some GM)) (hmp' : w10.ownsMap Ybaz.prog 9 Rg GM n1 D') (h6 : W.heap[v6]? = some (.cells #[ov] 89 (0, 0)))
    (ho : W.ownsRow G0 93 1 ov L.length (L.map fun g => .pointer (some ⟨g.gb, 0, none⟩))) (hgr11 : (w10.alloc o).grownBy w11 ov.ownBlock) (own11 : w11.ownsRow G0 93 1 v' (L.length + 1) (L.map (fun g => .pointer (some ⟨g.gb, 0, none⟩)) ++ [.pointer (some ⟨gb, 0, none⟩)])) :
    Ch 0 (OnN GM v6 G0) W (w11.setCell ⟨v6, 0, none⟩ v') ∧ (w11.setCell ⟨v6, 0, none⟩ v').ownsMap Ybaz.prog 9 Rg GM n1 D' ∧ (∃ ov, (w11.setCell ⟨v6, 0, none⟩ v').heap[v6]? = some (.cells #[ov] 89 (0, 0)) ∧ (w11.setCell ⟨v6, 0, none⟩ v').ownsRow G0 93 1 ov (L.length + 1) (L.map (fun g => .pointer (some ⟨g.gb, 0, none⟩)) ++ [.pointer (some ⟨gb, 0, none⟩)])) := by
  obtain ⟨es, ck, hm, _⟩ := hmp
  obtain ⟨es', ck', hm', hr'⟩ := hmp'
  have h6' : w10.heap[v6]? = some (.cells #[ov] 89 (0, 0)) := (hgr.block v6 (lt_blk h6) (fun e => by cases e; exact ne_map h6 hm rfl)).trans h6
  have ho' : w10.ownsRow G0 93 1 ov L.length (L.map fun g => .pointer (some ⟨g.gb, 0, none⟩)) := by
    refine (Ch.of_grown (B := 0) (S := fun b x => b = GM) hgr (fun b e => by cases e; exact ⟨Nat.zero_le _, fun _ _ => rfl⟩)).ownsRow ho (fun b cs hb e => ?_)
    subst e
    obtain ⟨cs2, hc2⟩ := (on_own' ho b hb)
    exact ne_map hc2 hm rfl
  have c1 : Ch 0 (OnN GM v6 G0) W w10 := Ch.of_grown hgr (fun b e => by cases e; exact ⟨Nat.zero_le _, fun x hx => by rw [hm] at hx; cases hx; exact .inl ⟨rfl, _, _, rfl⟩⟩)
  have on1 := on_own (ho'.alloc o)
  have c2 : Ch 0 (fun b x => G0 ≤ b ∧ Tg 93 x) (w10.alloc o) w11 := Ch.of_grown hgr11 (fun b e => ⟨Nat.zero_le _, fun x hx => ⟨(on1 b e).1, (on1 b e).2 x hx⟩⟩)
  have h6'' : w11.heap[v6]? = some (.cells #[ov] 89 (0, 0)) := c2.keep (alloc_old _ h6') (by rintro ⟨_, cs, fr, e⟩; cases e)
  have m11 : w11.ownsMap Ybaz.prog 9 Rg GM n1 D' := c2.ownsMap (World.ownsMap.alloc ⟨es', ck', hm', hr'⟩ _) (by rintro es c ⟨_, cs, fr, e⟩; cases e)
  refine ⟨(c1.trans (((Ch.refl _ _ _).alloc o).trans (c2.mono (fun b x _ _ h => .inr (.inl h))))).setCell (Nat.zero_le _) (fun x hx => ?_) _, setCell_map m11 h6'' _, v', ?_, setCell_row own11 h6'' (by decide) _⟩
  · rw [h6''] at hx
    cases hx
    exact .inr (.inr ⟨rfl, _, _, rfl⟩)
  · rw [set_blk h6'']
    rfl

end Go.Proofs.YbulkeifqGreat
