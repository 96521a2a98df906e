/-
  'fill' (18): the group's tuple.
-/
import Derived.Test.YbulkeifqGreatGrp
import Derived.WalkKit
import Derived.WalkSpells
import Derived.WalkLawsBesides
import Derived.Deep.RegionWith
import Derived.Deep.RegionHeld3
import Derived.Deep.QuietTactic
import Derived.BigQuiet
namespace Go.Proofs.YbulkeifqGreat
open Go.RowKit Go.Maps
set_option linter.unusedVariables false

theorem fr_cell {B : Nat} {D : List Nat} {T : List TypeId} {w w' : World} (h : Fr B D T w w') {b o : Nat} {cs : Array Value} {t : TypeId} {fr : Nat × Nat} {v : Value} (hb : w.heap[b]? = some (.cells cs t fr)) (hd : b ∉ D) (ht : t ∉ T) (hv : w.cell? ⟨b, o, none⟩ = some v) : w'.cell? ⟨b, o, none⟩ = some v := by
  rw [cell_blk (h.keep hb hd ht), ← cell_blk hb]
  exact hv

/-- How many entries a map has. -/
def LenIs (mb n : Nat) (w : World) : Prop := ∀ ty, (Builtin.len_ #[119] ty #[.map (some mb)]).run Ybaz.prog w = .ok (.int .i64 n) w

theorem len_is {w : World} {mb N n : Nat} {D : DataW Unit} (h : w.ownsMap Ybaz.prog 35 (plainElem Ybaz.prog 3) mb N D) (hs : Maps.size D = n) : ∀ ty, (Builtin.len_ #[119] ty #[.map (some mb)]).run Ybaz.prog w = .ok (.int .i64 n) w := fun ty => by
  rw [← hs]
  exact h.len Ybaz.underlying119 ty

/-- What 'fill' may turn. -/
def OnFill (M I lo hi : Nat) (k : Nat) (o : Obj) : Prop := k = M ∨ k = I ∨ (∃ cs fr, o = .cells cs 39 fr) ∨ OnGrp lo hi k o

set_option maxRecDepth 100000 in
set_option maxHeartbeats 1000000 in
theorem fill_star {w : World} {B M I GB gb hb hc n : Nat} {x2 x3 x4 k0 k1 : Value} {us : List Int} {cur : Value} {work : Int} (hn : n ≤ 4000000) (hM : Mach w B M I us cur work) (hul : us.length < 8000000) (hB : B ≤ w.heap.size)
    (hgb : w.heap[gb]? = some (.cells #[.slice (some ⟨hb, 0, none⟩) 2 hc, .int .i64 n, x2, x3, x4] 117 (0, 0))) (hGB : w.heap[GB]? = some (.cells #[.int .i64 1, .int .u8 0, .int .i64 (-1)] 59 (0, 0)))
    (hhb : ∃ cs, w.heap[hb]? = some (.cells cs 35 (0, 0))) (hv1 : w.cell? ⟨hb, 1, none⟩ = some k1) :
    Calls Ybaz.prog 18 #[.pointer (some ⟨gb, 0, none⟩), .pointer (some ⟨M, 0, none⟩), .slice (some ⟨GB, 0, none⟩) 1 1] w fun e w' => ∃ ext : List Int, ∃ w1, (ext = [] ∨ ext = [(n : Int)]) ∧ (n : Int) ∈ us ++ ext ∧ e = .returned (.slice (some ⟨hb, 0, none⟩) 2 hc) ∧
      Mach w1 B M I (us ++ ext) cur work ∧ Fr B [M, I] [39] w w1 ∧ w' = w1.setCell ⟨hb, 1, none⟩ (.int .u32 ((us ++ ext).idxOf (n : Int) : Nat)) := by
  obtain ⟨hcs, hhb⟩ := hhb
  have g0 : w.cell? ⟨GB, 0, none⟩ = some (.int .i64 1) := by rw [cell_blk hGB]; rfl
  have g1 : w.cell? ⟨GB, 1, none⟩ = some (.int .u8 0) := by rw [cell_blk hGB]; rfl
  have g2 : w.cell? ⟨GB, 2, none⟩ = some (.int .i64 (-1)) := by rw [cell_blk hGB]; rfl
  obtain ⟨Z, hZ⟩ : ∃ Z, Z = w.alloc (.cells #[.int .i64 1, .int .u8 0, .int .i64 (-1)] 59) := ⟨_, rfl⟩
  have hbx : Z.heap[w.heap.size]? = some (.cells #[.int .i64 1, .int .u8 0, .int .i64 (-1)] 59 (0, 0)) := by rw [hZ]; exact alloc_new _ _
  have hgbZ : Z.heap[gb]? = some (.cells #[.slice (some ⟨hb, 0, none⟩) 2 hc, .int .i64 n, x2, x3, x4] 117 (0, 0)) := by rw [hZ]; exact alloc_old _ hgb
  have hhbZ : Z.heap[hb]? = some (.cells hcs 35 (0, 0)) := by rw [hZ]; exact alloc_old _ hhb
  have hMZ : Mach Z B M I us cur work := by rw [hZ]; exact hM.below ((Below.refl _ _).alloc (Nat.le_refl _) _)
  have hBZ : B ≤ Z.heap.size := by rw [hZ]; simp; omega
  have hFZ : Fr B [M, I] [39] w Z := by rw [hZ]; exact (Fr.refl _ _ _ _).alloc _
  have hwi : (Lit.int .i64 (n : Int)).wf = true := wf64 (by omega)
  have hv1Z : Z.cell? ⟨hb, 1, none⟩ = some k1 := by rw [hZ]; exact cell_up _ hv1
  have nM : ∀ {b : Nat} {cs : Array Value} {t : TypeId}, Z.heap[b]? = some (.cells cs t (0, 0)) → t ≠ 31 → b ∉ [M, I] := by
    intro b cs t h ht
    obtain ⟨vv, h1, _⟩ := hMZ.blk
    obtain ⟨D, ⟨es, ck, h2, _⟩, _⟩ := hMZ.ids
    have e1 := ne_blk h h1 ht
    have e2 := ne_map h h2
    simp [e1, e2]
  have n1 := nM hgbZ (by decide)
  have n2 := nM hbx (by decide)
  have n3 := nM hhbZ (by decide)
  have z0 : Z.cell? ⟨gb, 0, none⟩ = some (.slice (some ⟨hb, 0, none⟩) 2 hc) := by rw [cell_blk hgbZ]; rfl
  have z1 : Z.cell? ⟨gb, 1, none⟩ = some (.int .i64 n) := by rw [cell_blk hgbZ]; rfl
  have b0 : Z.cell? ⟨w.heap.size, 0, none⟩ = some (.int .i64 1) := by rw [cell_blk hbx]; rfl
  have b1 : Z.cell? ⟨w.heap.size, 1, none⟩ = some (.int .u8 0) := by rw [cell_blk hbx]; rfl
  have b2 : Z.cell? ⟨w.heap.size, 2, none⟩ = some (.int .i64 (-1)) := by rw [cell_blk hbx]; rfl
  have ne1 : hb ≠ gb := ne_blk hhbZ hgbZ (by decide)
  have ne2 : hb ≠ w.heap.size := ne_blk hhbZ hbx (by decide)
  have HA := hid' (And.intro hgbZ (And.intro hbx hhbZ))
  have HM := hid' (And.intro hMZ (And.intro hBZ hFZ))
  have HZ := hid' hZ
  have hv1D : Z.drew.cell? ⟨hb, 1, none⟩ = some k1 := hv1Z
  have lgb := lt_blk hgb
  clear nM hgb hGB hhb hM hgbZ hbx hhbZ hMZ hBZ hFZ hZ hv1 hv1Z
  go_enter Ybaz.func18, Ybaz.ntmps18
  go_wp2
  refine wp_loop_rounds 2 ?_
  rw [rounds_succ]
  go_wp2
  rw [← HZ.out]
  go_region_held3 (fun w' => w'.cell? ⟨gb, 0, none⟩ = some (.slice (some ⟨hb, 0, none⟩) 2 hc) ∧ w'.cell? ⟨gb, 1, none⟩ = some (.int .i64 n) ∧ w'.cell? ⟨w.heap.size, 0, none⟩ = some (.int .i64 1))
    (first | go_keep | (go_split_ands; refine ⟨?_, ?_, ?_⟩ <;> exact cell_up _ (by assumption)) | (go_split_ands; refine ⟨fr_cell hF5 (alloc_old _ HA.out.1) n1 (by decide) (by assumption), fr_cell hF5 (alloc_old _ HA.out.1) n1 (by decide) (by assumption), fr_cell hF5 (alloc_old _ HA.out.2.1) n2 (by decide) (by assumption)⟩))
    (first | (go_at_call 6; refine (intValue_any _ _).mono ?_; rintro e w6 ⟨rfl, rfl⟩) | (go_at_call 5; refine (intern_any ((HM.out.1.below (Below.refl _ _).drew).below ((Below.refl _ _).alloc (Nat.le_refl _) _)) _ hwi hul (by simp; have := HM.out.2.1; omega)).mono ?_; rintro e w5 ⟨ext, hext, hmem, rfl, hM5, hF5⟩; have c5 := fr_cell hF5 (alloc_old _ HA.out.2.2) n3 (by decide) (cell_up _ hv1D); have f5 := free_blk (hF5.keep (alloc_old _ HA.out.2.2) n3 (by decide)) 1))
  go_wp2
  rw [rounds_succ]
  go_wp2
  go_ret
  exact ⟨ext, w5, hext, hmem, rfl, hM5, HM.out.2.2.trans ((((Fr.refl _ _ _ _).drew).alloc _).trans hF5), rfl⟩
set_option maxRecDepth 100000 in
set_option maxHeartbeats 1000000 in
theorem fill_cnt {w : World} {B M I GB gb hb hc sb mb n N : Nat} {x1 x3 x4 k0 k1 : Value} {D : DataW Unit} {us : List Int} {cur : Value} {work : Int} (hn : n ≤ 4000000) (hM : Mach w B M I us cur work) (hul : us.length < 8000000) (hB : B ≤ w.heap.size)
    (hgb : w.heap[gb]? = some (.cells #[.slice (some ⟨hb, 0, none⟩) 2 hc, x1, .slice (some ⟨sb, 0, none⟩) 1 1, x3, x4] 117 (0, 0))) (hGB : w.heap[GB]? = some (.cells #[.int .i64 1, .int .u8 0, .int .i64 1] 59 (0, 0)))
    (hsb : w.heap[sb]? = some (.cells #[.map (some mb)] 119 (0, 0))) (hmap : w.ownsMap Ybaz.prog 35 (plainElem Ybaz.prog 3) mb N D) (hsz : Maps.size D = n) (hmI : mb ≠ I) (hhb : ∃ cs, w.heap[hb]? = some (.cells cs 35 (0, 0))) (hv1 : w.cell? ⟨hb, 1, none⟩ = some k1) :
    Calls Ybaz.prog 18 #[.pointer (some ⟨gb, 0, none⟩), .pointer (some ⟨M, 0, none⟩), .slice (some ⟨GB, 0, none⟩) 1 1] w fun e w' => ∃ ext : List Int, ∃ w1, (ext = [] ∨ ext = [(n : Int)]) ∧ (n : Int) ∈ us ++ ext ∧ e = .returned (.slice (some ⟨hb, 0, none⟩) 2 hc) ∧
      Mach w1 B M I (us ++ ext) cur work ∧ Fr B [M, I] [39] w w1 ∧ w' = w1.setCell ⟨hb, 1, none⟩ (.int .u32 ((us ++ ext).idxOf (n : Int) : Nat)) := by
  obtain ⟨hcs, hhb⟩ := hhb
  have g0 : w.cell? ⟨GB, 0, none⟩ = some (.int .i64 1) := by rw [cell_blk hGB]; rfl
  have g1 : w.cell? ⟨GB, 1, none⟩ = some (.int .u8 0) := by rw [cell_blk hGB]; rfl
  have g2 : w.cell? ⟨GB, 2, none⟩ = some (.int .i64 1) := by rw [cell_blk hGB]; rfl
  obtain ⟨Z, hZ⟩ : ∃ Z, Z = w.alloc (.cells #[.int .i64 1, .int .u8 0, .int .i64 1] 59) := ⟨_, rfl⟩
  have hbx : Z.heap[w.heap.size]? = some (.cells #[.int .i64 1, .int .u8 0, .int .i64 1] 59 (0, 0)) := by rw [hZ]; exact alloc_new _ _
  have hgbZ : Z.heap[gb]? = some (.cells #[.slice (some ⟨hb, 0, none⟩) 2 hc, x1, .slice (some ⟨sb, 0, none⟩) 1 1, x3, x4] 117 (0, 0)) := by rw [hZ]; exact alloc_old _ hgb
  have hsbZ : Z.heap[sb]? = some (.cells #[.map (some mb)] 119 (0, 0)) := by rw [hZ]; exact alloc_old _ hsb
  have hhbZ : Z.heap[hb]? = some (.cells hcs 35 (0, 0)) := by rw [hZ]; exact alloc_old _ hhb
  have hMZ : Mach Z B M I us cur work := by rw [hZ]; exact hM.below ((Below.refl _ _).alloc (Nat.le_refl _) _)
  have hBZ : B ≤ Z.heap.size := by rw [hZ]; simp; omega
  have hFZ : Fr B [M, I] [39] w Z := by rw [hZ]; exact (Fr.refl _ _ _ _).alloc _
  have hwi : (Lit.int .i64 (n : Int)).wf = true := wf64 (by omega)
  have hv1Z : Z.cell? ⟨hb, 1, none⟩ = some k1 := by rw [hZ]; exact cell_up _ hv1
  have nM : ∀ {b : Nat} {cs : Array Value} {t : TypeId}, Z.heap[b]? = some (.cells cs t (0, 0)) → t ≠ 31 → b ∉ [M, I] := by
    intro b cs t h ht
    obtain ⟨vv, h1, _⟩ := hMZ.blk
    obtain ⟨D, ⟨es, ck, h2, _⟩, _⟩ := hMZ.ids
    have e1 := ne_blk h h1 ht
    have e2 := ne_map h h2
    simp [e1, e2]
  have n1 := nM hgbZ (by decide)
  have n2 := nM hbx (by decide)
  have n3 := nM hhbZ (by decide)
  have n4 := nM hsbZ (by decide)
  have z0 : Z.cell? ⟨gb, 0, none⟩ = some (.slice (some ⟨hb, 0, none⟩) 2 hc) := by rw [cell_blk hgbZ]; rfl
  have z1 : Z.cell? ⟨gb, 2, none⟩ = some (.slice (some ⟨sb, 0, none⟩) 1 1) := by rw [cell_blk hgbZ]; rfl
  have s1 : Z.cell? ⟨sb, 0, none⟩ = some (.map (some mb)) := by rw [cell_blk hsbZ]; rfl
  have hmD : Hid (Z.drew.ownsMap Ybaz.prog 35 (plainElem Ybaz.prog 3) mb N D) := hid' (by rw [hZ]; exact (hmap.alloc _).drew)
  have hlen := len_is hmD.out hsz
  have hmA : ∀ o, Hid ((Z.alloc o).drew.ownsMap Ybaz.prog 35 (plainElem Ybaz.prog 3) mb N D) := fun o => hid' (by rw [hZ]; exact ((hmap.alloc _).alloc _).drew)
  have hmM : mb ∉ [M, I] := by
    obtain ⟨es, ck, h1, _⟩ := hmD.out
    obtain ⟨vv, h2, _⟩ := hMZ.blk
    have := ne_map (show Z.drew.heap[M]? = _ from h2) h1
    simp [Ne.symm this, hmI]
  have HS := hid' hsz
  have b0 : Z.cell? ⟨w.heap.size, 0, none⟩ = some (.int .i64 1) := by rw [cell_blk hbx]; rfl
  have b1 : Z.cell? ⟨w.heap.size, 1, none⟩ = some (.int .u8 0) := by rw [cell_blk hbx]; rfl
  have b2 : Z.cell? ⟨w.heap.size, 2, none⟩ = some (.int .i64 1) := by rw [cell_blk hbx]; rfl
  have ne1 : hb ≠ gb := ne_blk hhbZ hgbZ (by decide)
  have ne2 : hb ≠ w.heap.size := ne_blk hhbZ hbx (by decide)
  have ne3 : hb ≠ sb := ne_blk hhbZ hsbZ (by decide)
  have HA := hid' (And.intro hgbZ (And.intro hbx (And.intro hhbZ hsbZ)))
  have HM := hid' (And.intro hMZ (And.intro hBZ hFZ))
  have HZ := hid' hZ
  have hv1D : Z.drew.cell? ⟨hb, 1, none⟩ = some k1 := hv1Z
  have lgb := lt_blk hgb
  clear nM hmI hsb hmap hsz hsbZ hgb hGB hhb hM hgbZ hbx hhbZ hMZ hBZ hFZ hZ hv1 hv1Z
  go_enter Ybaz.func18, Ybaz.ntmps18
  go_wp2
  refine wp_loop_rounds 2 ?_
  rw [rounds_succ]
  go_wp2
  rw [← HZ.out]
  go_region_held3 (fun w' => (∀ ty, (Builtin.len_ #[119] ty #[.map (some mb)]).run Ybaz.prog w' = .ok (.int .i64 n) w') ∧ Hid (w'.ownsMap Ybaz.prog 35 (plainElem Ybaz.prog 3) mb N D) ∧ w'.cell? ⟨gb, 0, none⟩ = some (.slice (some ⟨hb, 0, none⟩) 2 hc) ∧ w'.cell? ⟨gb, 2, none⟩ = some (.slice (some ⟨sb, 0, none⟩) 1 1) ∧ w'.cell? ⟨sb, 0, none⟩ = some (.map (some mb)) ∧ w'.cell? ⟨w.heap.size, 0, none⟩ = some (.int .i64 1))
    (first | (go_split_ands; refine ⟨len_is (setCell_map (Hid.out (by assumption)) b5 _) HS.out, hid' (setCell_map (Hid.out (by assumption)) b5 _), ?_, ?_, ?_, ?_⟩ <;> go_keep) | (go_split_ands; refine ⟨len_is (hF5.ownsMap (Hid.out (by assumption)) hmM) HS.out, hid' (hF5.ownsMap (Hid.out (by assumption)) hmM), fr_cell hF5 (alloc_old _ HA.out.1) n1 (by decide) (by assumption), fr_cell hF5 (alloc_old _ HA.out.1) n1 (by decide) (by assumption), fr_cell hF5 (alloc_old _ HA.out.2.2.2) n4 (by decide) (by assumption), fr_cell hF5 (alloc_old _ HA.out.2.1) n2 (by decide) (by assumption)⟩) | (refine ⟨?_, ?_, ?_, ?_, ?_, ?_⟩ <;> first | exact hmA _ | exact len_is (hmA _).out HS.out | go_keep) | go_keep)
    (first | (go_at_call 6; refine (intValue_any _ _).mono ?_; rintro e w6 ⟨rfl, rfl⟩) | (go_at_call 5; refine (intern_any ((HM.out.1.below (Below.refl _ _).drew).below ((Below.refl _ _).alloc (Nat.le_refl _) _)) _ hwi hul (by simp; have := HM.out.2.1; omega)).mono ?_; rintro e w5 ⟨ext, hext, hmem, rfl, hM5, hF5⟩; have c5 := fr_cell hF5 (alloc_old _ HA.out.2.2.1) n3 (by decide) (cell_up _ hv1D); have b5 := hF5.keep (alloc_old _ HA.out.2.2.1) n3 (by decide); have f5 := free_blk b5 1))
  go_wp2
  rw [rounds_succ]
  go_wp2
  go_ret
  exact ⟨ext, w5, hext, hmem, rfl, hM5, HM.out.2.2.trans ((((Fr.refl _ _ _ _).drew).alloc _).trans hF5), rfl⟩

set_option maxRecDepth 100000 in
set_option maxHeartbeats 1000000 in
theorem fill_best {w : World} {GB gb hb hc bb bs : Nat} {op : Int} {x1 x2 k1 mp : Value} (hop : op = 1 ∨ op = 2)
    (hgb : w.heap[gb]? = some (.cells #[.slice (some ⟨hb, 0, none⟩) 2 hc, x1, x2, .slice (some ⟨bb, 0, none⟩) 1 1, .slice none 0 0] 117 (0, 0))) (hGB : w.heap[GB]? = some (.cells #[.int .i64 1, .int .u8 op, .int .i64 1] 59 (0, 0)))
    (hbb : w.heap[bb]? = some (.cells #[.int .u32 bs] 35 (0, 0))) (hhb : ∃ cs, w.heap[hb]? = some (.cells cs 35 (0, 0))) (hv1 : w.cell? ⟨hb, 1, none⟩ = some k1) :
    Calls Ybaz.prog 18 #[.pointer (some ⟨gb, 0, none⟩), mp, .slice (some ⟨GB, 0, none⟩) 1 1] w fun e w' => e = .returned (.slice (some ⟨hb, 0, none⟩) 2 hc) ∧
      ∃ w1, Below w.heap.size w w1 ∧ w' = w1.setCell ⟨hb, 1, none⟩ (.int .u32 bs) := by
  obtain ⟨hcs, hhb⟩ := hhb
  have g0 : w.cell? ⟨GB, 0, none⟩ = some (.int .i64 1) := by rw [cell_blk hGB]; rfl
  have g1 : w.cell? ⟨GB, 1, none⟩ = some (.int .u8 op) := by rw [cell_blk hGB]; rfl
  have g2 : w.cell? ⟨GB, 2, none⟩ = some (.int .i64 1) := by rw [cell_blk hGB]; rfl
  obtain ⟨Z, hZ⟩ : ∃ Z, Z = w.alloc (.cells #[.int .i64 1, .int .u8 op, .int .i64 1] 59) := ⟨_, rfl⟩
  have hbx : Z.heap[w.heap.size]? = some (.cells #[.int .i64 1, .int .u8 op, .int .i64 1] 59 (0, 0)) := by rw [hZ]; exact alloc_new _ _
  have hgbZ : Z.heap[gb]? = some (.cells #[.slice (some ⟨hb, 0, none⟩) 2 hc, x1, x2, .slice (some ⟨bb, 0, none⟩) 1 1, .slice none 0 0] 117 (0, 0)) := by rw [hZ]; exact alloc_old _ hgb
  have hhbZ : Z.heap[hb]? = some (.cells hcs 35 (0, 0)) := by rw [hZ]; exact alloc_old _ hhb
  have hbbZ : Z.heap[bb]? = some (.cells #[.int .u32 bs] 35 (0, 0)) := by rw [hZ]; exact alloc_old _ hbb
  have hv1Z : Z.cell? ⟨hb, 1, none⟩ = some k1 := by rw [hZ]; exact cell_up _ hv1
  have fh := free_blk hhbZ 1
  have y0 : w.cell? ⟨gb, 0, none⟩ = some (.slice (some ⟨hb, 0, none⟩) 2 hc) := by rw [cell_blk hgb]; rfl
  have y4 : w.cell? ⟨gb, 4, none⟩ = some (.slice none 0 0) := by rw [cell_blk hgb]; rfl
  have z0 : Z.cell? ⟨gb, 0, none⟩ = some (.slice (some ⟨hb, 0, none⟩) 2 hc) := by rw [cell_blk hgbZ]; rfl
  have z3 : Z.cell? ⟨gb, 3, none⟩ = some (.slice (some ⟨bb, 0, none⟩) 1 1) := by rw [cell_blk hgbZ]; rfl
  have z4 : Z.cell? ⟨gb, 4, none⟩ = some (.slice none 0 0) := by rw [cell_blk hgbZ]; rfl
  have zb : Z.cell? ⟨bb, 0, none⟩ = some (.int .u32 bs) := by rw [cell_blk hbbZ]; rfl
  have b0 : Z.cell? ⟨w.heap.size, 0, none⟩ = some (.int .i64 1) := by rw [cell_blk hbx]; rfl
  have b1 : Z.cell? ⟨w.heap.size, 1, none⟩ = some (.int .u8 op) := by rw [cell_blk hbx]; rfl
  have ne1 : hb ≠ gb := ne_blk hhbZ hgbZ (by decide)
  have ne2 : hb ≠ w.heap.size := ne_blk hhbZ hbx (by decide)
  have hB : Below w.heap.size w Z := by rw [hZ]; exact (Below.refl _ _).alloc (Nat.le_refl _) _
  have HB := hid' hB
  have HZ := hid' hZ
  have lgb := lt_blk hgb
  have h0' : ¬ op = 0 := by rcases hop with rfl | rfl <;> omega
  have h0'' : (op == 0) = false := by simpa using h0'
  have h0 : decide (op = 0) = false := by rcases hop with rfl | rfl <;> rfl
  clear hgb hGB hhb hbb hgbZ hbx hhbZ hbbZ hZ hv1 hop hB
  have qM := slice_nn
  go_enter Ybaz.func18, Ybaz.ntmps18
  go_wp2
  refine wp_loop_rounds 2 ?_
  rw [rounds_succ]
  go_wp2
  rw [← HZ.out]
  go_region
  all_goals
    go_wp2
    rw [rounds_succ]
    go_wp2
    go_ret
    exact ⟨rfl, _, HB.out.trans ((Below.refl _ _).drew.mono HB.out.size), rfl⟩
end Go.Proofs.YbulkeifqGreat
