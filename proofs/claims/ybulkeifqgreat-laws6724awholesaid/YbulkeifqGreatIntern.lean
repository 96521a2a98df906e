/-
  THE CONTRACT OF 'intern' (function 5).
-/
import Derived.Test.YbulkeifqGreatMach
import Derived.WalkKit
import Derived.WalkSpells
import Derived.WalkLawsBesides
import Derived.Deep.QuietTactic
import Derived.BigQuiet
import Derived.Deep.RegionLaw
import Derived.RegionTactic
namespace Go.Proofs.YbulkeifqGreat
open Go.RowKit Go.Maps
set_option linter.unusedVariables false

theorem hid {p : Prop} (h : p) : Hid p := h
theorem zero35 (w : World) : (zeroValue 35).run Ybaz.prog w = .ok (.int .u32 0) w := by kernel_rfl
theorem pe35 : plainElem (H := Unit) Ybaz.prog 35 (.int .u32 0) = some (.lit (.int .u32 0), []) := plainElem_int Ybaz.underlying35 (by decide)

theorem ownsMap_drewN {H : Type} {w : World} {P : Program} {k : TypeId} {R : Value → Option (DataW H × List MemPlace)} {b n : Nat} {D : DataW H} (h : w.ownsMap P k R b n D) (q : Nat) : (w.drewN q).ownsMap P k R b n D := h

/-- The look-up of a value in the ids' map. -/
theorem ids_look {w : World} {I n : Nat} {D : DataW Unit} {vs : List Int} (h : w.ownsMap Ybaz.prog 39 (plainElem Ybaz.prog 35) I n D) (hD : IdsOK D vs) {i : Int} (hi : (Lit.int .i64 i).wf = true) :
    ∃ c, (Instr.lookup 25 (.map (some I)) (vInt i) true).run Ybaz.prog w = .ok (.tuple #[.int .u32 c, .bool (decide (i ∈ vs))]) w ∧ (i ∈ vs → c = (vs.idxOf i : Nat)) ∧ (i ∉ vs → c = 0) := by
  obtain ⟨v, ps, hr, hv⟩ := h.look_ok law39 Ybaz.underlying25 (zero35 _) pe35 (key39 i hi)
  obtain ⟨c, rfl, hc, _⟩ := plainElem_int_inv Ybaz.underlying35 hv
  rw [(hD i hi).1] at hr
  simp only [Prod.mk.injEq] at hc
  refine ⟨c, hr, fun hm => ?_, fun hm => ?_⟩
  · rw [(hD i hi).2 hm] at hc
    simpa using hc.1.symm
  · rw [Maps.atKey_of_not_has (by rw [(hD i hi).1]; exact decide_eq_false hm)] at hc
    simpa using hc.1.symm

set_option maxHeartbeats 400000 in
theorem intern_hit {w : World} {B M I : Nat} {vs : List Int} {cur : Value} {work : Int} (h : Mach w B M I vs cur work) (i : Int) (hi : (Lit.int .i64 i).wf = true) (hm : i ∈ vs) :
    Calls Ybaz.prog 5 #[.pointer (some ⟨M, 0, none⟩), vInt i] w fun e w' => e = .returned (.int .u32 (vs.idxOf i : Nat)) ∧ Below w.heap.size w w' := by
  obtain ⟨vv, hb, hown⟩ := h.blk
  obtain ⟨D, hmap, hD⟩ := h.ids
  have hMs := lt_blk hb
  have c2 : w.cell? ⟨M, 2, none⟩ = some (.map (some I)) := by rw [cell_blk hb]; rfl
  have hlk : ∀ nq, ∃ c, (Instr.lookup 25 (.map (some I)) (vInt i) true).run Ybaz.prog ((w.alloc (.cells #[.int .u8 0, .int .i64 i, .string nil8] 39)).drewN nq) = .ok (.tuple #[.int .u32 c, .bool (decide (i ∈ vs))]) ((w.alloc (.cells #[.int .u8 0, .int .i64 i, .string nil8] 39)).drewN nq) ∧ (i ∈ vs → c = (vs.idxOf i : Nat)) ∧ (i ∉ vs → c = 0) := fun nq => ids_look (ownsMap_drewN (hmap.alloc _) nq) hD hi
  have hlk' : ∀ nq, (Instr.lookup 25 (.map (some I)) (vInt i) true).run Ybaz.prog ((w.alloc (.cells #[.int .u8 0, .int .i64 i, .string nil8] 39)).drewN nq) = .ok (.tuple #[.int .u32 (vs.idxOf i : Nat), .bool true]) ((w.alloc (.cells #[.int .u8 0, .int .i64 i, .string nil8] 39)).drewN nq) := fun nq => by
    obtain ⟨c, h1, h2, _⟩ := hlk nq
    rw [h1, h2 hm, decide_eq_true hm]
  clear hlk hD hmap hown hb h hm
  generalize (vs.idxOf i : Nat) = q at *
  go_enter Ybaz.func5, Ybaz.ntmps5
  go_wp2
  go_quiet (fail)
  go_wp2
  go_ret
  exact ⟨rfl, below_drewN ((Below.refl _ _).alloc (Nat.le_refl _) _) _⟩
/-- The shape of an owned slice, written out. -/
theorem ownsRow_shape {w : World} {b : Nat} {e : TypeId} {size : Nat} {v : Value} {n : Nat} {xs : List Value} (h : w.ownsRow b e size v n xs) :
    ∃ ao cap, v = .slice ao n cap ∧ n ≤ cap ∧ (∀ x, ao = some x → b ≤ x.block ∧ ∃ cs, w.heap[x.block]? = some (.cells cs e (0, 0))) := by
  rcases h.2 with ⟨rfl, rfl⟩ | ⟨g, cap, cur, hv, hg, hh, hc, _⟩
  · exact ⟨none, 0, rfl, Nat.le_refl _, fun x h => by cases h⟩
  · exact ⟨_, cap, hv, hc, fun x h => by cases h; exact ⟨hg, cur, hh⟩⟩

theorem grown_keep {Y w1 : World} {row : Option Nat} (hg : Y.grownBy w1 row) {b : Nat} {cs : Array Value} {t : TypeId} {fr : Nat × Nat} (hb : Y.heap[b]? = some (.cells cs t fr)) (hne : ∀ k, row = some k → ∃ cs' t' fr', Y.heap[k]? = some (.cells cs' t' fr') ∧ t' ≠ t) : w1.heap[b]? = some (.cells cs t fr) := by
  refine (hg.block b (lt_blk hb) ?_).trans hb
  intro e
  obtain ⟨cs', t', fr', h1, h2⟩ := hne b e.symm
  rw [hb] at h1
  cases h1
  exact h2 rfl

theorem info39 : (Ybaz.prog.info? 39).map (fun i => (i.zero, i.size, i.bytes)) = some (some (vInt 0), 3, 32) := by kernel_rfl

theorem setCell_map {H : Type} {w : World} {P : Program} {k : TypeId} {R : Value → Option (DataW H × List MemPlace)} {b n : Nat} {D : DataW H} (h : w.ownsMap P k R b n D) {M o : Nat} {cs : Array Value} {t : TypeId} {fr : Nat × Nat} (hM : w.heap[M]? = some (.cells cs t fr)) (v : Value) : (w.setCell ⟨M, o, none⟩ v).ownsMap P k R b n D := by
  obtain ⟨es, c, h1, h2⟩ := h
  exact ⟨es, c, (set_other (ne_map hM h1).symm o v).trans h1, h2⟩

theorem setCell_row {w : World} {b : Nat} {e : TypeId} {size : Nat} {v : Value} {n : Nat} {xs : List Value} (h : w.ownsRow b e size v n xs) {M o : Nat} {cs : Array Value} {t : TypeId} {fr : Nat × Nat} (hM : w.heap[M]? = some (.cells cs t fr)) (ht : t ≠ e) (u : Value) : (w.setCell ⟨M, o, none⟩ u).ownsRow b e size v n xs := by
  obtain ⟨h1, h2⟩ := h
  refine ⟨h1, ?_⟩
  rcases h2 with h2 | ⟨g, cap, cur, hv, hg, hh, r⟩
  · exact Or.inl h2
  · exact Or.inr ⟨g, cap, cur, hv, hg, (set_other (ne_blk hM hh ht).symm o u).trans hh, r⟩

/-- The values are appended to, and the machine's field is written. -/
theorem intern_mid {w X w1 : World} {B M I : Nat} {vs : List Int} {cur : Value} {work i : Int} {ao : Option Addr} {cap g cap2 : Nat} {D : DataW Unit} {o1 o2 : Obj} {m : Nat}
    (hXh : X.heap = (w.alloc o1).heap) (hXo : X.os = w.os ∧ X.tape = w.tape ∧ X.output = w.output) (ho1 : o1 = .cells #[.int .u8 0, .int .i64 i, .string nil8] 39 (0, 0))
    (hb : w.heap[M]? = some (.cells (mCells (.slice ao vs.length cap) I cur work) 31 (0, 0))) (hmap : w.ownsMap Ybaz.prog 39 (plainElem Ybaz.prog 35) I m D)
    (hao : ∀ x : Addr, ao = some x → B ≤ x.block ∧ ∃ cs, w.heap[x.block]? = some (.cells cs 39 (0, 0))) (hBM : B ≤ M)
    (hown1 : w1.ownsRow B 39 3 (.slice (some ⟨g, 0, none⟩) (vs.length + 1) cap2) (vs.length + 1) (vs.flatMap vCells ++ vCells i))
    (hgrow : (X.alloc o2).drew.grownBy w1 (Value.ownBlock (.slice ao vs.length cap))) :
    (w1.setCell ⟨M, 1, none⟩ (.slice (some ⟨g, 0, none⟩) (vs.length + 1) cap2)).heap[M]? = some (.cells (mCells (.slice (some ⟨g, 0, none⟩) (vs.length + 1) cap2) I cur work) 31 (0, 0)) ∧
    (w1.setCell ⟨M, 1, none⟩ (.slice (some ⟨g, 0, none⟩) (vs.length + 1) cap2)).heap[w.heap.size]? = some (.cells #[.int .u8 0, .int .i64 i, .string nil8] 39 (0, 0)) ∧
    (w1.setCell ⟨M, 1, none⟩ (.slice (some ⟨g, 0, none⟩) (vs.length + 1) cap2)).ownsMap Ybaz.prog 39 (plainElem Ybaz.prog 35) I m D ∧
    (w1.setCell ⟨M, 1, none⟩ (.slice (some ⟨g, 0, none⟩) (vs.length + 1) cap2)).ownsRow B 39 3 (.slice (some ⟨g, 0, none⟩) (vs.length + 1) cap2) (vs.length + 1) (vs.flatMap vCells ++ vCells i) ∧
    Fr B [M, I] [39] w (w1.setCell ⟨M, 1, none⟩ (.slice (some ⟨g, 0, none⟩) (vs.length + 1) cap2)) := by
  subst ho1
  have hXs : X.heap.size = w.heap.size + 1 := by rw [hXh]; simp
  have up : ∀ {b : Nat} {x : Obj}, w.heap[b]? = some x → (X.alloc o2).drew.heap[b]? = some x := fun {b x} h => alloc_old _ (by rw [hXh]; exact alloc_old _ h)
  have row : ∀ k, Value.ownBlock (.slice ao vs.length cap) = some k → B ≤ k ∧ k < w.heap.size ∧ ∃ cs, w.heap[k]? = some (.cells cs 39 (0, 0)) := by
    intro k hk
    cases ao with
    | none => cases hk
    | some x =>
      cases hk
      obtain ⟨h1, cs, hcs⟩ := hao x rfl
      exact ⟨h1, lt_blk hcs, cs, hcs⟩
  have z0 : w1.heap[M]? = some (.cells (mCells (.slice ao vs.length cap) I cur work) 31 (0, 0)) := grown_keep hgrow (up hb) (fun k hk => by
    obtain ⟨_, _, cs, hcs⟩ := row k hk
    exact ⟨cs, 39, (0, 0), up hcs, by decide⟩)
  have zbox : w1.heap[w.heap.size]? = some (.cells #[.int .u8 0, .int .i64 i, .string nil8] 39 (0, 0)) := by
    have hx : (X.alloc o2).drew.heap[w.heap.size]? = some (.cells #[.int .u8 0, .int .i64 i, .string nil8] 39 (0, 0)) := alloc_old _ (by rw [hXh]; exact alloc_new _ _)
    refine (hgrow.block _ (lt_blk hx) (fun e => ?_)).trans hx
    have := (row _ e.symm).2.1
    omega
  have f1 : Fr B [M, I] [39] w (X.alloc o2).drew := by
    refine ⟨hXo.1, hXo.2.1, hXo.2.2, ?_, fun k hk _ => ?_⟩
    · show w.heap.size ≤ (X.alloc o2).heap.size
      simp; omega
    · have : (X.alloc o2).heap[k]? = X.heap[k]? := Below.heap_alloc _ _ _ (by omega)
      show (X.alloc o2).heap[k]? = _
      rw [this, hXh, Below.heap_alloc _ _ _ hk]
  have f2 : Fr B [M, I] [39] (X.alloc o2).drew w1 := Fr.of_grown hgrow (fun k hk => by
    obtain ⟨h1, _, cs, hcs⟩ := row k hk
    exact ⟨h1, .inr ⟨cs, 39, (0, 0), up hcs, by simp⟩⟩)
  have hm1 : w1.ownsMap Ybaz.prog 39 (plainElem Ybaz.prog 35) I m D := by
    obtain ⟨es, c, h1, h2⟩ := hmap
    refine ⟨es, c, (hgrow.block I (lt_blk (up h1)) (fun e => ?_)).trans (up h1), h2⟩
    obtain ⟨_, _, cs, hcs⟩ := row _ e.symm
    exact ne_map hcs h1 rfl
  refine ⟨?_, (set_other (by have := lt_blk hb; omega) _ _).trans zbox, setCell_map hm1 z0 _, setCell_row hown1 z0 (by decide) _, (f1.trans f2).setCell hBM (by simp) _⟩
  rw [set_blk z0]
  rfl

theorem ids_put {D : DataW Unit} {vs : List Int} {i : Int} (h : IdsOK D vs) (hD : Maps.IsMap D) (hi : (Lit.int .i64 i).wf = true) (hm : i ∉ vs) : IdsOK (D.put (klOf i) (.lit (.int .u32 vs.length))) (vs ++ [i]) := by
  intro j hj
  by_cases e : j = i
  · subst e
    refine ⟨by rw [Maps.has_put_same hD (klOf_key j)]; simp, fun _ => ?_⟩
    rw [Maps.atKey_put_same hD (klOf_key j), List.idxOf_append, if_neg hm]
    simp
  · have hne : klOf j ≠ klOf i := fun h' => e (klOf_inj hj hi h')
    obtain ⟨h1, h2⟩ := h j hj
    refine ⟨by rw [Maps.has_put_other hne, h1]; simp [e], fun hmem => ?_⟩
    have hjv : j ∈ vs := by simpa [e] using hmem
    rw [Maps.atKey_put_other hne, h2 hjv, List.idxOf_append, if_pos hjv]

theorem intern_end {w Y w2 : World} {B M I : Nat} {vs : List Int} {cur : Value} {work i : Int} {g cap2 : Nat} {D : DataW Unit}
    (h : Mach w B M I vs cur work) (hi : (Lit.int .i64 i).wf = true) (hm : i ∉ vs) (hlen : vs.length < 8000000) (hD : IdsOK D vs)
    (mb : Y.heap[M]? = some (.cells (mCells (.slice (some ⟨g, 0, none⟩) (vs.length + 1) cap2) I cur work) 31 (0, 0)))
    (mmap : Y.ownsMap Ybaz.prog 39 (plainElem Ybaz.prog 35) I vs.length D)
    (mrow : Y.ownsRow B 39 3 (.slice (some ⟨g, 0, none⟩) (vs.length + 1) cap2) (vs.length + 1) (vs.flatMap vCells ++ vCells i))
    (mfr : Fr B [M, I] [39] w Y) (hmap2 : w2.ownsMap Ybaz.prog 39 (plainElem Ybaz.prog 35) I (vs.length + 1) (D.put (klOf i) (.lit (.int .u32 vs.length)))) (hg2 : Y.drew.grownBy w2 (some I)) :
    Mach w2 B M I (vs ++ [i]) cur work ∧ Fr B [M, I] [39] w w2 := by
  have hDm : Maps.IsMap D := mmap.isMap
  have f2 : Fr B [M, I] [39] Y w2 := Fr.trans (Fr.of_below (Below.refl _ _).drew) (Fr.of_grown hg2 (fun k hk => by cases hk; exact ⟨h.lo.2, .inl (by simp)⟩))
  obtain ⟨es, c, hI, _⟩ := mmap
  have b2 : w2.heap[M]? = some (.cells (mCells (.slice (some ⟨g, 0, none⟩) (vs.length + 1) cap2) I cur work) 31 (0, 0)) :=
    (hg2.block M (lt_blk mb) (fun e => by cases e; exact ne_map mb hI rfl)).trans mb
  have r2 : w2.ownsRow B 39 3 (.slice (some ⟨g, 0, none⟩) (vs.length + 1) cap2) (vs.length + 1) (vs.flatMap vCells ++ vCells i) := by
    obtain ⟨q1, q2⟩ := mrow
    refine ⟨q1, ?_⟩
    rcases q2 with q2 | ⟨g', cap', cur', hv, hg', hh, r⟩
    · exact .inl q2
    · exact .inr ⟨g', cap', cur', hv, hg', (hg2.block g' (lt_blk hh) (fun e => by cases e; exact ne_map hh hI rfl)).trans hh, r⟩
  refine ⟨⟨⟨_, b2, ?_⟩, ⟨_, by simpa using hmap2, ids_put hD hDm hi hm⟩, ?_, ?_, by simp; omega, h.lo⟩, mfr.trans f2⟩
  · simpa [List.flatMap_append] using r2
  · rw [List.nodup_append]
    exact ⟨h.nodup, by simp, by simp; rintro a ha rfl; exact hm ha⟩
  · intro j hj
    rcases List.mem_append.1 hj with hj | hj
    · exact h.wf j hj
    · simp at hj; subst hj; exact hi

set_option maxHeartbeats 400000 in
theorem intern_miss {w : World} {B M I : Nat} {vs : List Int} {cur : Value} {work : Int} (h : Mach w B M I vs cur work) (i : Int) (hi : (Lit.int .i64 i).wf = true) (hm : i ∉ vs) (hlen : vs.length < 8000000) (hB : B ≤ w.heap.size) :
    Calls Ybaz.prog 5 #[.pointer (some ⟨M, 0, none⟩), vInt i] w fun e w' => e = .returned (.int .u32 vs.length) ∧ Mach w' B M I (vs ++ [i]) cur work ∧ Fr B [M, I] [39] w w' := by
  obtain ⟨i0, hi0, hz0, hz1, hz2⟩ := info_parts info39
  obtain ⟨vv, hb, hown⟩ := h.blk
  obtain ⟨D, hmap, hD⟩ := h.ids
  obtain ⟨ao, cap, rfl, hcap, hao⟩ := ownsRow_shape hown
  have hMs := lt_blk hb
  have hlk : ∀ nq, (Instr.lookup 25 (.map (some I)) (vInt i) true).run Ybaz.prog ((w.alloc (.cells #[.int .u8 0, .int .i64 i, .string nil8] 39)).drewN nq) = .ok (.tuple #[.int .u32 0, .bool false]) ((w.alloc (.cells #[.int .u8 0, .int .i64 i, .string nil8] 39)).drewN nq) := fun nq => by
    obtain ⟨c, h1, _, h2⟩ := ids_look (ownsMap_drewN (hmap.alloc (.cells #[.int .u8 0, .int .i64 i, .string nil8] 39)) nq) hD hi
    rw [h1, h2 hm, decide_eq_false hm]
  have c2 : w.cell? ⟨M, 2, none⟩ = some (.map (some I)) := by rw [cell_blk hb]; rfl
  have HD := hid hD
  have Hh := hid h
  have Hmap := hid hmap
  have Hown := hid hown
  have Hb := hid hb
  clear hD h hmap hown hb
  go_enter Ybaz.func5, Ybaz.ntmps5
  go_wp2
  go_quiet (fail)
  obtain ⟨X, hX⟩ : ∃ X, X = (w.alloc (.cells #[.int .u8 0, .int .i64 i, .string nil8] 39)).drewN nq := ⟨_, rfl⟩
  rw [← hX]
  have hXh : X.heap = (w.alloc (.cells #[.int .u8 0, .int .i64 i, .string nil8] 39)).heap := by rw [hX]; rfl
  have hbX : X.heap[M]? = some (.cells (mCells (.slice ao vs.length cap) I cur work) 31 (0, 0)) := by rw [hXh]; exact alloc_old _ Hb.out
  have x3 : X.cell? ⟨M, 3, none⟩ = some (.slice none 0 0) := by rw [cell_blk hbX]; rfl
  have x1 : X.cell? ⟨M, 1, none⟩ = some (.slice ao vs.length cap) := by rw [cell_blk hbX]; rfl
  have hbox : X.heap[w.heap.size]? = some (.cells #[.int .u8 0, .int .i64 i, .string nil8] 39 (0, 0)) := by rw [hXh]; exact alloc_new _ _
  have y0 : X.cell? ⟨w.heap.size, 0, none⟩ = some (.int .u8 0) := by rw [cell_blk hbox]; rfl
  have y1 : X.cell? ⟨w.heap.size, 1, none⟩ = some (.int .i64 i) := by rw [cell_blk hbox]; rfl
  have y2 : X.cell? ⟨w.heap.size, 2, none⟩ = some (.string nil8) := by rw [cell_blk hbox]; rfl
  have hsX : X.heap.size = w.heap.size + 1 := by rw [hXh]; simp
  have hownX : X.ownsRow B 39 3 (.slice ao vs.length cap) vs.length (vs.flatMap vCells) := by
    have hk := Fr.ownsRow (Fr.of_below (B := 0) (D := []) (T := []) ((Below.refl _ w).alloc (Nat.le_refl _) (.cells #[.int .u8 0, .int .i64 i, .string nil8] 39))) Hown.out (by simp) (by simp)
    rw [hX]; exact hk
  have haoX : ∀ k, Value.ownBlock (.slice ao vs.length cap) = some k → ∃ cs' t' fr', X.heap[k]? = some (.cells cs' t' fr') ∧ t' ≠ 31 := by
    intro k hk
    cases ao with
    | none => cases hk
    | some x =>
      cases hk
      obtain ⟨_, cs, hcs⟩ := hao x rfl
      exact ⟨cs, 39, (0, 0), by rw [hXh]; exact alloc_old _ hcs, by decide⟩
  have hMX : M < X.heap.size := by omega
  have HsX := hid hsX
  have Hbox := hid hbox
  have HaoX := hid haoX
  clear hsX hbox haoX
  have HX := hid hX
  have HXh := hid hXh
  have HbX := hid hbX
  clear hX hXh hbX hlk
  go_wp2
  go_region_law ((refine step_append_lies _ (by rfl) _ _ 24 (by rfl) B 39 i0 (vInt 0) 3 32 Ybaz.underlying24 hi0 hz0 hz1 hz2 rfl (by decide) _ vs.length (vs.flatMap vCells) (by rfl) (hownX.alloc _) ⟨X.heap.size, 0, none⟩ 1 1 (vCells i) (by rfl) rfl (World.news_of_block (heap_alloc_new _ _)) (by simp [vCells, Value.oneCell']) (by omega) (by unfold maxLen; omega) (by omega) (by have := HsX.out; simp; omega) (X.heap.size + 1) (by simp) ?_; intro g cap2 w1 hown1 hgrow hat hlt; have z0 := grown_keep hgrow (alloc_old _ HbX.out) (fun k hk => by obtain ⟨a, b, c, d, e⟩ := HaoX.out k hk; exact ⟨a, b, c, alloc_old _ d, e⟩); have z1 := cell_blk z0 1; have z2 := free_blk z0 1; simp at z1))
  all_goals
    obtain ⟨mb, mbox, mmap, mrow, mfr⟩ := intern_mid HXh.out (by rw [HX.out]; exact ⟨rfl, rfl, rfl⟩) rfl Hb.out Hmap.out hao Hh.out.lo.1 hown1 hgrow
    clear hgrow hown1 z0 z1 z2 hlt hat x1 x3 y0 y1 y2 hownX
    obtain ⟨Y, hY⟩ : ∃ Y, Y = w1.setCell ⟨M, 1, none⟩ (.slice (some ⟨g, 0, none⟩) (vs.length + 1) cap2) := ⟨_, rfl⟩
    rw [← hY] at mb mbox mmap mrow mfr ⊢
    clear hY
    have u2 : Y.cell? ⟨M, 2, none⟩ = some (.map (some I)) := by rw [cell_blk mb]; rfl
    have y0 : Y.cell? ⟨w.heap.size, 0, none⟩ = some (.int .u8 0) := by rw [cell_blk mbox]; rfl
    have y1 : Y.cell? ⟨w.heap.size, 1, none⟩ = some (.int .i64 i) := by rw [cell_blk mbox]; rfl
    have y2 : Y.cell? ⟨w.heap.size, 2, none⟩ = some (.string nil8) := by rw [cell_blk mbox]; rfl
    obtain ⟨w2, hrun, hmap2, hg2⟩ := (mmap.drew).update law39 Ybaz.underlying25 (by unfold maxLen; omega) (key39 i hi) (plainElem_int Ybaz.underlying35 (a := (vs.length : Int)) (by simp [Lit.wf, IntKind.min, IntKind.max, IntKind.signed, IntKind.bits]; omega))
    have HF := hid (intern_end Hh.out hi hm hlen HD.out mb mmap mrow mfr hmap2 hg2)
    clear mb mbox mmap mrow mfr hmap2 hg2
    go_wp2
    go_region
    all_goals go_wp2
    all_goals go_ret
    all_goals exact ⟨rfl, HF.out⟩

/-- BOTH WAYS: the id of i is its place among the values; where it was not there it stands behind them. -/
theorem intern_any {w : World} {B M I : Nat} {vs : List Int} {cur : Value} {work : Int} (h : Mach w B M I vs cur work) (i : Int) (hi : (Lit.int .i64 i).wf = true) (hlen : vs.length < 8000000) (hB : B ≤ w.heap.size) :
    Calls Ybaz.prog 5 #[.pointer (some ⟨M, 0, none⟩), vInt i] w fun e w' => ∃ ext : List Int, (ext = [] ∨ ext = [i]) ∧ i ∈ vs ++ ext ∧ e = .returned (.int .u32 ((vs ++ ext).idxOf i : Nat)) ∧ Mach w' B M I (vs ++ ext) cur work ∧ Fr B [M, I] [39] w w' := by
  by_cases hm : i ∈ vs
  · refine (intern_hit h i hi hm).mono ?_
    rintro e w' ⟨rfl, hb⟩
    exact ⟨[], .inl rfl, by simpa using hm, by simp, by simpa using h.below hb, Fr.of_below hb⟩
  · refine (intern_miss h i hi hm hlen hB).mono ?_
    rintro e w' ⟨rfl, hM, hF⟩
    refine ⟨[i], .inr rfl, by simp, ?_, hM, hF⟩
    rw [List.idxOf_append, if_neg hm]
    simp

end Go.Proofs.YbulkeifqGreat
