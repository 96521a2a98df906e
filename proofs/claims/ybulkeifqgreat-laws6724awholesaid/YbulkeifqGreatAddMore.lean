/-
  'add' (17): a group takes one way more. Three kinds of aggregate.
-/
import Derived.Test.YbulkeifqGreatAdd
import Derived.Test.YbulkeifqGreatBefore
import Derived.WalkKit
import Derived.WalkSpells
import Derived.WalkLawsBesides
import Derived.Deep.RegionWith
import Derived.Deep.QuietTactic
import Derived.Deep.RegionHeld3
import Derived.BigQuiet
namespace Go.Proofs.YbulkeifqGreat
open Go.RowKit Go.Maps
set_option linter.unusedVariables false


set_option maxRecDepth 100000 in
set_option maxHeartbeats 1000000 in
theorem add_more {w : World} {gb GB RB bb v bs n B M I : Nat} {op : Int} {x0 x2 : Value} {vs : List Int} {cur : Value} {work : Int} (hop : op = 1 ∨ op = 2) (hn : 0 < n) (hn2 : n ≤ 4000000)
    (hM : Mach w B M I vs cur work) (hBg : B ≤ gb) (hvl : v < vs.length) (hbl : bs < vs.length)
    (hgb : w.heap[gb]? = some (.cells #[x0, .int .i64 n, x2, .slice (some ⟨bb, 0, none⟩) 1 1, .slice none 0 0] 117 (0, 0))) (hGB : w.heap[GB]? = some (.cells #[.int .i64 1, .int .u8 op, .int .i64 1] 59 (0, 0)))
    (hRB : w.cell? ⟨RB, 1, none⟩ = some (.int .u32 v)) (hRBg : RB ≠ gb) (hRBl : RB < w.heap.size) (hbb : w.heap[bb]? = some (.cells #[.int .u32 bs] 35 (0, 0))) :
    Calls Ybaz.prog 17 #[.pointer (some ⟨gb, 0, none⟩), .pointer (some ⟨M, 0, none⟩), .slice (some ⟨GB, 0, none⟩) 1 1, .slice (some ⟨RB, 0, none⟩) 2 2, .int .i64 1] w fun e w' => e = .returned (.tuple #[]) ∧
      w'.heap[gb]? = some (.cells #[x0, .int .i64 (n + 1 : Nat), x2, .slice (some ⟨bb, 0, none⟩) 1 1, .slice none 0 0] 117 (0, 0)) ∧
      w'.heap[bb]? = some (.cells #[.int .u32 (if befB op (vs.getD v 0) (vs.getD bs 0) then v else bs : Nat)] 35 (0, 0)) ∧
      Ch 0 (fun k o => k = gb ∨ k = bb) w w' := by
  have c1 : w.cell? ⟨gb, 1, none⟩ = some (.int .i64 n) := by rw [cell_blk hgb]; rfl
  have f1 := free_blk hgb 1
  have hne : GB ≠ gb := ne_blk hGB hgb (by decide)
  have hne2 : bb ≠ gb := ne_blk hbb hgb (by decide)
  obtain ⟨Y, hY⟩ : ∃ Y, Y = w.setCell ⟨gb, 1, none⟩ (.int .i64 ((n : Int) + 1)) := ⟨_, rfl⟩
  have hCY : Ch 0 (fun k o => k = gb ∨ k = bb) w Y := by rw [hY]; exact (Ch.refl _ _ _).setCell (Nat.zero_le _) (fun _ _ => .inl rfl) _
  have hgbY : Y.heap[gb]? = some (.cells #[x0, .int .i64 (n + 1 : Nat), x2, .slice (some ⟨bb, 0, none⟩) 1 1, .slice none 0 0] 117 (0, 0)) := by rw [hY, set_blk hgb]; rfl
  have hGBY : Y.heap[GB]? = some (.cells #[.int .i64 1, .int .u8 op, .int .i64 1] 59 (0, 0)) := by rw [hY, set_other hne]; exact hGB
  have hbbY : Y.heap[bb]? = some (.cells #[.int .u32 bs] 35 (0, 0)) := by rw [hY, set_other hne2]; exact hbb
  have hMY : Mach Y B M I vs cur work := by
    have hIg : I ≠ gb := by
      obtain ⟨D, ⟨es, ck, h1, _⟩, _⟩ := hM.ids
      exact (ne_map hgb h1).symm
    obtain ⟨vv, h1, h2⟩ := hM.blk
    have hMg : M ≠ gb := ne_blk h1 hgb (by decide)
    rw [hY]
    refine hM.kept (D := [gb]) (T := []) (Fr.setCell (Fr.refl _ _ _ _) hBg (by simp) _) (by simp [hMg]) (by simp [hIg]) (by simp) (by simp) (fun k cs fr hk => by
      have : k ≠ gb := ne_blk hk hgb (by decide)
      simp [this])
  have hRBY : Y.cell? ⟨RB, 1, none⟩ = some (.int .u32 v) := by
    unfold World.cell? at hRB ⊢
    rw [hY, set_other hRBg]
    exact hRB
  have hsY : Y.heap.size = w.heap.size := by rw [hY]; simp [World.setCell]
  have lRB : RB < Y.heap.size := by omega
  have g0 : Y.cell? ⟨GB, 0, none⟩ = some (.int .i64 1) := by rw [cell_blk hGBY]; rfl
  have g1 : Y.cell? ⟨GB, 1, none⟩ = some (.int .u8 op) := by rw [cell_blk hGBY]; rfl
  have g2 : Y.cell? ⟨GB, 2, none⟩ = some (.int .i64 1) := by rw [cell_blk hGBY]; rfl
  have y3 : Y.cell? ⟨gb, 3, none⟩ = some (.slice (some ⟨bb, 0, none⟩) 1 1) := by rw [cell_blk hgbY]; rfl
  have y4 : Y.cell? ⟨gb, 4, none⟩ = some (.slice none 0 0) := by rw [cell_blk hgbY]; rfl
  have b0 : Y.cell? ⟨bb, 0, none⟩ = some (.int .u32 bs) := by rw [cell_blk hbbY]; rfl
  have fb := free_blk hbbY 0
  have lgb := lt_blk hgbY
  have lbb := lt_blk hbbY
  obtain ⟨Z, hZ⟩ : ∃ Z, Z = Y.alloc (.cells #[.int .i64 1, .int .u8 op, .int .i64 1] 59) := ⟨_, rfl⟩
  have hbx : Z.heap[Y.heap.size]? = some (.cells #[.int .i64 1, .int .u8 op, .int .i64 1] 59 (0, 0)) := by rw [hZ]; exact alloc_new _ _
  have hgbZ : Z.heap[gb]? = some (.cells #[x0, .int .i64 (n + 1 : Nat), x2, .slice (some ⟨bb, 0, none⟩) 1 1, .slice none 0 0] 117 (0, 0)) := by rw [hZ]; exact alloc_old _ hgbY
  have hbbZ : Z.heap[bb]? = some (.cells #[.int .u32 bs] 35 (0, 0)) := by rw [hZ]; exact alloc_old _ hbbY
  have hMZ : Mach Z B M I vs cur work := by rw [hZ]; exact hMY.below ((Below.refl _ _).alloc (Nat.le_refl _) _)
  have hCZ : Ch 0 (fun k o => k = gb ∨ k = bb) w Z := by rw [hZ]; exact hCY.alloc _
  have h0 : decide (op = 0) = false := by rcases hop with rfl | rfl <;> rfl
  have h0' : ¬ op = 0 := by rcases hop with rfl | rfl <;> omega
  obtain ⟨z, hz⟩ : ∃ z : Int, z = (n : Int) + 1 := ⟨_, rfl⟩
  have hn1 : ¬ (z = 1) := by omega
  have hn1' : decide (z = 1) = false := decide_eq_false hn1
  have hn2' : (z == 1) = false := by simpa using hn1
  have HC := hid' (fun (w' : World) (h : Mach w' B M I vs cur work) => before_any h op v bs hvl hbl hop)
  have HF := hid' (And.intro hCZ (And.intro hgbZ hbbZ))
  generalize befB op (vs.getD v 0) (vs.getD bs 0) = r at *
  have z1 : Z.cell? ⟨Y.heap.size, 1, none⟩ = some (.int .u8 op) := by rw [cell_blk hbx]; rfl
  have zg1 : Z.cell? ⟨gb, 1, none⟩ = some (.int .i64 z) := by rw [cell_blk hgbZ, hz]; rfl
  clear hz
  have zg3 : Z.cell? ⟨gb, 3, none⟩ = some (.slice (some ⟨bb, 0, none⟩) 1 1) := by rw [cell_blk hgbZ]; rfl
  have zg4 : Z.cell? ⟨gb, 4, none⟩ = some (.slice none 0 0) := by rw [cell_blk hgbZ]; rfl
  have zb0 : Z.cell? ⟨bb, 0, none⟩ = some (.int .u32 bs) := by rw [cell_blk hbbZ]; rfl
  have zfb := free_blk hbbZ 0
  have hgZ := lt_blk hgbZ
  have hbZ := lt_blk hbbZ
  clear hM hMY hsY hgb hGB hCY hgbY hGBY hbb hbbY hRB hop hCZ hgbZ hbbZ hbx
  have hMD : Mach Z.drew B M I vs cur work := hMZ.below (Below.refl _ _).drew
  have HZ := hid' hZ
  clear hZ
  have qM := slice_nn
  cases r
  all_goals
    go_enter Ybaz.func17, Ybaz.ntmps17
    go_wp2
    rw [← hY]
    clear hY c1 f1
    refine wp_loop_rounds 2 ?_
    rw [rounds_succ]
    go_wp2
    rw [← HZ.out]
    go_region_held3 (fun w' => w'.cell? ⟨Y.heap.size, 1, none⟩ = some (.int .u8 op) ∧ w'.cell? ⟨gb, 1, none⟩ = some (.int .i64 z) ∧ w'.cell? ⟨gb, 3, none⟩ = some (.slice (some ⟨bb, 0, none⟩) 1 1) ∧ w'.cell? ⟨bb, 0, none⟩ = some (.int .u32 bs) ∧ Mach w' B M I vs cur work)
      (first | go_keep | (go_split_ands; refine ⟨?_, ?_, ?_, ?_, ?_⟩ <;> first | exact cell_later hbel (by assumption) | exact Mach.below (by assumption) hbel))
      (first | (go_at_call 29; refine (HC.out _ (by assumption)).mono ?_; rintro e w1 ⟨rfl, hbel⟩))
    have kb : w1.heap[bb]? = some (.cells #[.int .u32 bs] 35 (0, 0)) := (hbel.block bb hbZ).trans HF.out.2.2
    have kg : w1.heap[gb]? = some (.cells #[x0, .int .i64 (n + 1 : Nat), x2, .slice (some ⟨bb, 0, none⟩) 1 1, .slice none 0 0] 117 (0, 0)) := (hbel.block gb hgZ).trans HF.out.2.1
    have kC : Ch 0 (fun k o => k = gb ∨ k = bb) w w1 := HF.out.1.trans (Ch.of_below ((Below.refl _ _).drew.trans hbel))
    have kf := free_blk kb 0
    have HK := hid' (And.intro kb (And.intro kg kC))
    clear kb kg kC hbel
    go_wp2
    rw [rounds_succ]
    go_wp2
    refine bodyPost_end (results_none rfl _ _ _) rfl ?_
    first
      | exact ⟨rfl, HK.out.2.1, HK.out.1, HK.out.2.2⟩
      | exact ⟨rfl, (set_other (Ne.symm hne2) _ _).trans HK.out.2.1, by rw [set_blk HK.out.1]; rfl, HK.out.2.2.setCell (Nat.zero_le _) (fun _ _ => .inr rfl) _⟩
end Go.Proofs.YbulkeifqGreat
