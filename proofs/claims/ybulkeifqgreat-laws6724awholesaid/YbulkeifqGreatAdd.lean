/-
  'add' (17): a group takes one way more. Three kinds of aggregate.
-/
import Derived.Test.YbulkeifqGreatNewGroup
import Derived.WalkKit
import Derived.WalkSpells
import Derived.WalkLawsBesides
import Derived.Deep.RegionWith
import Derived.Deep.QuietTactic
import Derived.Deep.RegionHeld3
import Derived.BigQuiet
namespace Go.Proofs.YbulkeifqGreat
open Go.RowKit Go.Maps
set_option linter.unusedVariables false

/-- Only block b may have turned. -/
def One (b : Nat) (k : Nat) (o : Obj) : Prop := k = b

set_option maxHeartbeats 1000000 in
theorem add_star {w : World} {gb GB n : Nat} {op : Int} {x0 x2 x3 x4 mp rs : Value} (hn : n ≤ 4000000) (hgb : w.heap[gb]? = some (.cells #[x0, .int .i64 n, x2, x3, x4] 117 (0, 0))) (hGB : w.heap[GB]? = some (.cells #[.int .i64 1, .int .u8 op, .int .i64 (-1)] 59 (0, 0))) :
    Calls Ybaz.prog 17 #[.pointer (some ⟨gb, 0, none⟩), mp, .slice (some ⟨GB, 0, none⟩) 1 1, rs, .int .i64 1] w fun e w' => e = .returned (.tuple #[]) ∧
      w'.heap[gb]? = some (.cells #[x0, .int .i64 (n + 1 : Nat), x2, x3, x4] 117 (0, 0)) ∧ Ch 0 (One gb) w w' := by
  have c1 : w.cell? ⟨gb, 1, none⟩ = some (.int .i64 n) := by rw [cell_blk hgb]; rfl
  have f1 := free_blk hgb 1
  have hne : GB ≠ gb := ne_blk hGB hgb (by decide)
  obtain ⟨Y, hY⟩ : ∃ Y, Y = w.setCell ⟨gb, 1, none⟩ (.int .i64 ((n : Int) + 1)) := ⟨_, rfl⟩
  have hCY : Ch 0 (One gb) w Y := by rw [hY]; exact (Ch.refl _ _ _).setCell (Nat.zero_le _) (fun _ _ => rfl) _
  have hgbY : Y.heap[gb]? = some (.cells #[x0, .int .i64 (n + 1 : Nat), x2, x3, x4] 117 (0, 0)) := by rw [hY, set_blk hgb]; rfl
  have hGBY : Y.heap[GB]? = some (.cells #[.int .i64 1, .int .u8 op, .int .i64 (-1)] 59 (0, 0)) := by rw [hY, set_other hne]; exact hGB
  have g0 : Y.cell? ⟨GB, 0, none⟩ = some (.int .i64 1) := by rw [cell_blk hGBY]; rfl
  have g1 : Y.cell? ⟨GB, 1, none⟩ = some (.int .u8 op) := by rw [cell_blk hGBY]; rfl
  have g2 : Y.cell? ⟨GB, 2, none⟩ = some (.int .i64 (-1)) := by rw [cell_blk hGBY]; rfl
  have HE := hid' (show Ch 0 (One gb) w Y ∧ Y.heap[gb]? = some (.cells #[x0, .int .i64 (n + 1 : Nat), x2, x3, x4] 117 (0, 0)) from ⟨hCY, hgbY⟩)
  clear hgb hGB hCY hgbY hGBY
  go_enter Ybaz.func17, Ybaz.ntmps17
  go_wp2
  rw [← hY]
  clear hY c1 f1
  refine wp_loop_rounds 2 ?_
  rw [rounds_succ]
  go_wp2
  rw [rounds_succ]
  go_wp2
  refine bodyPost_end (results_none rfl _ _ _) rfl ?_
  exact ⟨rfl, alloc_old _ HE.out.2, HE.out.1.alloc _⟩

/-! ### count of a variable's values -/
theorem key35 : Keyed Ybaz.prog 35 := int_keyed Ybaz.underlying35
theorem wf32 {v : Nat} (h : v < 4294967296) : (Lit.int .u32 v).wf = true := by simp [Lit.wf, IntKind.min, IntKind.max, IntKind.signed, IntKind.bits]; omega
theorem wf64 {v : Nat} (h : v < 4294967296) : (Lit.int .i64 v).wf = true := by simp [Lit.wf, IntKind.min, IntKind.max, IntKind.signed, IntKind.bits]; omega
theorem zero3 (w : World) : (zeroValue 3).run Ybaz.prog w = .ok (.int .i64 0) w := by kernel_rfl

theorem map_nil (w : World) (p : Option Nat) : (binOp .eql 119 (.map p) (.map none)).run Ybaz.prog w = .ok (.bool p.isNone) w := by cases p <;> kernel_rfl

/-- How many different members. -/
def dist : List Nat → Nat
  | [] => 0
  | x :: r => (if x ∈ r then 0 else 1) + dist r

theorem dist_snoc (v : Nat) : ∀ xs : List Nat, dist (xs ++ [v]) = dist xs + if v ∈ xs then 0 else 1
  | [] => by simp [dist]
  | a :: r => by
    show (if a ∈ r ++ [v] then 0 else 1) + dist (r ++ [v]) = _
    rw [dist_snoc v r]
    simp only [dist, List.mem_append, List.mem_cons]
    by_cases h1 : a = v
    · subst h1
      by_cases h2 : a ∈ r <;> simp [h2] <;> omega
    · have h1' : ¬ v = a := fun e => h1 e.symm
      by_cases h2 : a ∈ r <;> by_cases h3 : v ∈ r <;> simp [h1, h1', h2, h3] <;> omega

theorem key_lit (u : Nat) : WideAt.IsKeyLit (.int .u32 (u : Int)) := trivial

/-- The map of what was seen: each member with how often. -/
def SeenD (D : DataW Unit) (xs : List Nat) : Prop :=
  (∀ v : Nat, v < 4294967296 → Maps.has D (.int .u32 v) = decide (v ∈ xs) ∧ D.atKey (.int .u32 v) (.lit (.int .i64 0)) = .lit (.int .i64 (xs.count v : Nat))) ∧ Maps.size D = dist xs

theorem seen_empty : SeenD (.map []) [] := ⟨fun v _ => ⟨by simp [Maps.has], by rw [Maps.atKey_of_not_has rfl]; simp⟩, rfl⟩

theorem lit_ne {u v : Nat} (h : u ≠ v) : (Lit.int .u32 (u : Int)) ≠ Lit.int .u32 (v : Int) := by
  intro e
  simp only [Lit.int.injEq, true_and] at e
  omega

theorem seen_put {D : DataW Unit} {xs : List Nat} (h : SeenD D xs) (hD : Maps.Tidy D) {v : Nat} (hv : v < 4294967296) : SeenD (D.put (.int .u32 v) (.lit (.int .i64 (xs.count v + 1 : Nat)))) (xs ++ [v]) := by
  refine ⟨fun u hu => ?_, ?_⟩
  · by_cases e : u = v
    · subst e
      refine ⟨by rw [Maps.has_put_same hD.isMap (key_lit _)]; simp, ?_⟩
      rw [Maps.atKey_put_same hD.isMap (key_lit _)]
      simp
    · obtain ⟨h1, h2⟩ := h.1 u hu
      refine ⟨by rw [Maps.has_put_other (lit_ne e), h1]; simp [e], ?_⟩
      rw [Maps.atKey_put_other (lit_ne e), h2]
      simp [List.count_append, Ne.symm e]
  · rw [Maps.size_put hD, (h.1 v hv).1, h.2, dist_snoc]
    by_cases e : v ∈ xs <;> simp [e]

set_option maxRecDepth 100000 in
set_option maxHeartbeats 1000000 in
theorem add_cnt_core {w : World} {gb GB RB n sb mb v N : Nat} {x0 x3 x4 mp : Value} {D : DataW Unit} {xs : List Nat} (hn : n ≤ 4000000) (hN : N ≤ 4000000) (hv : v < 4294967296) (hxl : xs.length ≤ 4000000)
    (hgb : w.heap[gb]? = some (.cells #[x0, .int .i64 n, .slice (some ⟨sb, 0, none⟩) 1 1, x3, x4] 117 (0, 0))) (hGB : w.heap[GB]? = some (.cells #[.int .i64 1, .int .u8 0, .int .i64 1] 59 (0, 0)))
    (hRB : w.cell? ⟨RB, 1, none⟩ = some (.int .u32 v)) (hRBg : RB ≠ gb) (hRBl : RB < w.heap.size) (hsb : w.heap[sb]? = some (.cells #[.map (some mb)] 119 (0, 0)))
    (hmap : w.ownsMap Ybaz.prog 35 (plainElem Ybaz.prog 3) mb N D) (hD : SeenD D xs) :
    Calls Ybaz.prog 17 #[.pointer (some ⟨gb, 0, none⟩), mp, .slice (some ⟨GB, 0, none⟩) 1 1, .slice (some ⟨RB, 0, none⟩) 2 2, .int .i64 1] w fun e w' => e = .returned (.tuple #[]) ∧
      w'.heap[gb]? = some (.cells #[x0, .int .i64 (n + 1 : Nat), .slice (some ⟨sb, 0, none⟩) 1 1, x3, x4] 117 (0, 0)) ∧ w'.heap[sb]? = some (.cells #[.map (some mb)] 119 (0, 0)) ∧
      (∃ D', w'.ownsMap Ybaz.prog 35 (plainElem Ybaz.prog 3) mb (N + 1) D' ∧ SeenD D' (xs ++ [v])) ∧ Ch 0 (fun k o => k = gb ∨ k = mb) w w' := by
  have c1 : w.cell? ⟨gb, 1, none⟩ = some (.int .i64 n) := by rw [cell_blk hgb]; rfl
  have f1 := free_blk hgb 1
  have hne : GB ≠ gb := ne_blk hGB hgb (by decide)
  have hne2 : sb ≠ gb := ne_blk hsb hgb (by decide)
  obtain ⟨Y, hY⟩ : ∃ Y, Y = w.setCell ⟨gb, 1, none⟩ (.int .i64 ((n : Int) + 1)) := ⟨_, rfl⟩
  have hCY : Ch 0 (fun k o => k = gb ∨ k = mb) w Y := by rw [hY]; exact (Ch.refl _ _ _).setCell (Nat.zero_le _) (fun _ _ => .inl rfl) _
  have hgbY : Y.heap[gb]? = some (.cells #[x0, .int .i64 (n + 1 : Nat), .slice (some ⟨sb, 0, none⟩) 1 1, x3, x4] 117 (0, 0)) := by rw [hY, set_blk hgb]; rfl
  have hGBY : Y.heap[GB]? = some (.cells #[.int .i64 1, .int .u8 0, .int .i64 1] 59 (0, 0)) := by rw [hY, set_other hne]; exact hGB
  have hsbY : Y.heap[sb]? = some (.cells #[.map (some mb)] 119 (0, 0)) := by rw [hY, set_other hne2]; exact hsb
  have hRBY : Y.cell? ⟨RB, 1, none⟩ = some (.int .u32 v) := by
    unfold World.cell? at hRB ⊢
    rw [hY, set_other hRBg]
    exact hRB
  have hmapY : Y.ownsMap Ybaz.prog 35 (plainElem Ybaz.prog 3) mb N D := by rw [hY]; exact setCell_map hmap hgb _
  have hsY : Y.heap.size = w.heap.size := by rw [hY]; simp [World.setCell]
  have lRB : RB < Y.heap.size := by omega
  clear hsY
  have g0 : Y.cell? ⟨GB, 0, none⟩ = some (.int .i64 1) := by rw [cell_blk hGBY]; rfl
  have g1 : Y.cell? ⟨GB, 1, none⟩ = some (.int .u8 0) := by rw [cell_blk hGBY]; rfl
  have g2 : Y.cell? ⟨GB, 2, none⟩ = some (.int .i64 1) := by rw [cell_blk hGBY]; rfl
  have y2 : Y.cell? ⟨gb, 2, none⟩ = some (.slice (some ⟨sb, 0, none⟩) 1 1) := by rw [cell_blk hgbY]; rfl
  have s0 : Y.cell? ⟨sb, 0, none⟩ = some (.map (some mb)) := by rw [cell_blk hsbY]; rfl
  have lgb := lt_blk hgbY
  have lsb := lt_blk hsbY
  obtain ⟨Z, hZ⟩ : ∃ Z, Z = Y.alloc (.cells #[.int .i64 1, .int .u8 0, .int .i64 1] 59) := ⟨_, rfl⟩
  have hmapZ : Z.ownsMap Ybaz.prog 35 (plainElem Ybaz.prog 3) mb N D := by rw [hZ]; exact hmapY.alloc _
  have hgbZ : Z.heap[gb]? = some (.cells #[x0, .int .i64 (n + 1 : Nat), .slice (some ⟨sb, 0, none⟩) 1 1, x3, x4] 117 (0, 0)) := by rw [hZ]; exact alloc_old _ hgbY
  have hsbZ : Z.heap[sb]? = some (.cells #[.map (some mb)] 119 (0, 0)) := by rw [hZ]; exact alloc_old _ hsbY
  have hkey := keyOf_int_mk (P := Ybaz.prog) Ybaz.underlying35 (wf32 hv)
  obtain ⟨c, hlk, hat, hwc⟩ := hmapZ.lookup_int key35 Ybaz.underlying119 Ybaz.underlying3 (zero3 _) hkey
  rw [(hD.1 v hv).2] at hat
  simp only [DataW.lit.injEq, Lit.int.injEq, true_and] at hat
  subst hat
  have hcl := List.count_le_length (a := v) (l := xs)
  obtain ⟨W2, hup, hmap2, hgr2⟩ := hmapZ.update key35 Ybaz.underlying119 (by unfold maxLen; omega) hkey (plainElem_int Ybaz.underlying3 (a := ((xs.count v + 1 : Nat) : Int)) (wf64 (by omega)))
  have hD2 := seen_put hD (hmapZ.tidy key35) hv
  obtain ⟨c2, hlk2, hat2, hwc2⟩ := hmap2.lookup_int key35 Ybaz.underlying119 Ybaz.underlying3 (zero3 _) hkey
  rw [Maps.atKey_put_same hmapZ.isMap (key_lit _)] at hat2
  simp only [DataW.lit.injEq, Lit.int.injEq, true_and] at hat2
  subst hat2
  obtain ⟨es, ck, hmbZ, _⟩ := hmapZ
  have hgb2 : W2.heap[gb]? = some (.cells #[x0, .int .i64 (n + 1 : Nat), .slice (some ⟨sb, 0, none⟩) 1 1, x3, x4] 117 (0, 0)) := (hgr2.block gb (lt_blk hgbZ) (fun e => by cases e; exact ne_map hgbZ hmbZ rfl)).trans hgbZ
  have hsb2 : W2.heap[sb]? = some (.cells #[.map (some mb)] 119 (0, 0)) := (hgr2.block sb (lt_blk hsbZ) (fun e => by cases e; exact ne_map hsbZ hmbZ rfl)).trans hsbZ
  have hC2 : Ch 0 (fun k o => k = gb ∨ k = mb) w W2 := (by rw [hZ]; exact hCY.alloc _ : Ch 0 (fun k o => k = gb ∨ k = mb) w Z).trans (Ch.of_grown hgr2 (fun k hk => by cases hk; exact ⟨Nat.zero_le _, fun _ _ => .inr rfl⟩))
  have z2 : W2.cell? ⟨gb, 2, none⟩ = some (.slice (some ⟨sb, 0, none⟩) 1 1) := by rw [cell_blk hgb2]; rfl
  have z0 : W2.cell? ⟨sb, 0, none⟩ = some (.map (some mb)) := by rw [cell_blk hsb2]; rfl
  have hex : ∃ D', W2.ownsMap Ybaz.prog 35 (plainElem Ybaz.prog 3) mb (N + 1) D' ∧ SeenD D' (xs ++ [v]) := ⟨_, hmap2, hD2⟩
  have HE := hid' (And.intro hgb2 (And.intro hsb2 (And.intro hex hC2)))
  have hnle : ¬ ((xs.count v : Int) + 1 ≤ 0) := by omega
  rw [hZ] at hlk hup
  simp only [Int.natCast_add, Int.cast_ofNat_Int] at hup hlk2
  clear hex hgb hGB hCY hgbY hGBY hsb hsbY hmap hmapY hD hgbZ hsbZ hmap2 hgr2 hD2 hmbZ hgb2 hsb2 hC2 hZ hRB hkey hwc hwc2
  generalize xs.count v = q at *
  have qM := map_nil
  go_enter Ybaz.func17, Ybaz.ntmps17
  go_wp2
  rw [← hY]
  clear hY c1 f1
  refine wp_loop_rounds 2 ?_
  rw [rounds_succ]
  go_wp2
  rw [rounds_succ]
  go_wp2
  refine bodyPost_end (results_none rfl _ _ _) rfl ?_
  exact ⟨rfl, HE.out⟩

set_option maxRecDepth 100000 in
set_option maxHeartbeats 1000000 in
theorem add_cnt_new {w : World} {gb GB RB n sb v : Nat} {x0 x3 x4 mp : Value} (hn : n ≤ 4000000) (hv : v < 4294967296)
    (hgb : w.heap[gb]? = some (.cells #[x0, .int .i64 n, .slice (some ⟨sb, 0, none⟩) 1 1, x3, x4] 117 (0, 0))) (hGB : w.heap[GB]? = some (.cells #[.int .i64 1, .int .u8 0, .int .i64 1] 59 (0, 0)))
    (hRB : w.cell? ⟨RB, 1, none⟩ = some (.int .u32 v)) (hRBg : RB ≠ gb) (hRBl : RB < w.heap.size) (hsb : w.heap[sb]? = some (.cells #[.map none] 119 (0, 0))) :
    Calls Ybaz.prog 17 #[.pointer (some ⟨gb, 0, none⟩), mp, .slice (some ⟨GB, 0, none⟩) 1 1, .slice (some ⟨RB, 0, none⟩) 2 2, .int .i64 1] w fun e w' => e = .returned (.tuple #[]) ∧
      w'.heap[gb]? = some (.cells #[x0, .int .i64 (n + 1 : Nat), .slice (some ⟨sb, 0, none⟩) 1 1, x3, x4] 117 (0, 0)) ∧
      (∃ mb D', w'.heap[sb]? = some (.cells #[.map (some mb)] 119 (0, 0)) ∧ w.heap.size ≤ mb ∧ w'.ownsMap Ybaz.prog 35 (plainElem Ybaz.prog 3) mb 1 D' ∧ SeenD D' [v]) ∧ Ch 0 (fun k o => k = gb ∨ k = sb) w w' := by
  have c1 : w.cell? ⟨gb, 1, none⟩ = some (.int .i64 n) := by rw [cell_blk hgb]; rfl
  have f1 := free_blk hgb 1
  have hne : GB ≠ gb := ne_blk hGB hgb (by decide)
  have hne2 : sb ≠ gb := ne_blk hsb hgb (by decide)
  obtain ⟨Y, hY⟩ : ∃ Y, Y = w.setCell ⟨gb, 1, none⟩ (.int .i64 ((n : Int) + 1)) := ⟨_, rfl⟩
  have hCY : Ch 0 (fun k o => k = gb ∨ k = sb) w Y := by rw [hY]; exact (Ch.refl _ _ _).setCell (Nat.zero_le _) (fun _ _ => .inl rfl) _
  have hgbY : Y.heap[gb]? = some (.cells #[x0, .int .i64 (n + 1 : Nat), .slice (some ⟨sb, 0, none⟩) 1 1, x3, x4] 117 (0, 0)) := by rw [hY, set_blk hgb]; rfl
  have hGBY : Y.heap[GB]? = some (.cells #[.int .i64 1, .int .u8 0, .int .i64 1] 59 (0, 0)) := by rw [hY, set_other hne]; exact hGB
  have hsbY : Y.heap[sb]? = some (.cells #[.map none] 119 (0, 0)) := by rw [hY, set_other hne2]; exact hsb
  have hRBY : Y.cell? ⟨RB, 1, none⟩ = some (.int .u32 v) := by
    unfold World.cell? at hRB ⊢
    rw [hY, set_other hRBg]
    exact hRB
  have hsY : Y.heap.size = w.heap.size := by rw [hY]; simp [World.setCell]
  have lRB : RB < Y.heap.size := by omega
  have g0 : Y.cell? ⟨GB, 0, none⟩ = some (.int .i64 1) := by rw [cell_blk hGBY]; rfl
  have g1 : Y.cell? ⟨GB, 1, none⟩ = some (.int .u8 0) := by rw [cell_blk hGBY]; rfl
  have g2 : Y.cell? ⟨GB, 2, none⟩ = some (.int .i64 1) := by rw [cell_blk hGBY]; rfl
  have y2 : Y.cell? ⟨gb, 2, none⟩ = some (.slice (some ⟨sb, 0, none⟩) 1 1) := by rw [cell_blk hgbY]; rfl
  have s0 : Y.cell? ⟨sb, 0, none⟩ = some (.map none) := by rw [cell_blk hsbY]; rfl
  have fs := free_blk hsbY 0
  have lgb := lt_blk hgbY
  have lsb := lt_blk hsbY
  obtain ⟨Z, hZ⟩ : ∃ Z, Z = (Y.setCell ⟨sb, 0, none⟩ (.map (some (Y.heap.size + 1)))).alloc (.cells #[.int .i64 1, .int .u8 0, .int .i64 1] 59) := ⟨_, rfl⟩
  have hZs : Z.heap.size = Y.heap.size + 1 := by rw [hZ]; simp [World.setCell]
  have hgbZ : Z.heap[gb]? = some (.cells #[x0, .int .i64 (n + 1 : Nat), .slice (some ⟨sb, 0, none⟩) 1 1, x3, x4] 117 (0, 0)) := by rw [hZ]; exact alloc_old _ ((set_other (Ne.symm hne2) _ _).trans hgbY)
  have hsbZ : Z.heap[sb]? = some (.cells #[.map (some (Y.heap.size + 1))] 119 (0, 0)) := by rw [hZ]; exact alloc_old _ (by rw [set_blk hsbY]; rfl)
  obtain ⟨U, hU⟩ : ∃ U, U = Z.alloc (.map #[] 0) := ⟨_, rfl⟩
  have hmapU : U.ownsMap Ybaz.prog 35 (plainElem (H := Unit) Ybaz.prog 3) (Y.heap.size + 1) 0 (.map []) := by rw [hU, ← hZs]; exact World.ownsMap_made _ _ _ _
  have hgbU : U.heap[gb]? = some (.cells #[x0, .int .i64 (n + 1 : Nat), .slice (some ⟨sb, 0, none⟩) 1 1, x3, x4] 117 (0, 0)) := by rw [hU]; exact alloc_old _ hgbZ
  have hsbU : U.heap[sb]? = some (.cells #[.map (some (Y.heap.size + 1))] 119 (0, 0)) := by rw [hU]; exact alloc_old _ hsbZ
  have hCU : Ch 0 (fun k o => k = gb ∨ k = sb) w U := by rw [hU, hZ]; exact ((hCY.setCell (Nat.zero_le _) (fun _ _ => .inr rfl) _).alloc _).alloc _
  have hkey := keyOf_int_mk (P := Ybaz.prog) Ybaz.underlying35 (wf32 hv)
  obtain ⟨c, hlk, hat, hwc⟩ := hmapU.lookup_int key35 Ybaz.underlying119 Ybaz.underlying3 (zero3 _) hkey
  rw [(seen_empty.1 v hv).2] at hat
  simp only [DataW.lit.injEq, Lit.int.injEq, true_and, List.count_nil, Int.natCast_zero] at hat
  subst hat
  obtain ⟨W2, hup, hmap2, hgr2⟩ := hmapU.update key35 Ybaz.underlying119 (by unfold maxLen; omega) hkey (plainElem_int Ybaz.underlying3 (a := 1) (by decide))
  have hD2 : SeenD ((DataW.map []).put (.int .u32 v) (.lit (.int .i64 1))) [v] := by simpa using seen_put seen_empty (hmapU.tidy key35) hv
  obtain ⟨c2, hlk2, hat2, hwc2⟩ := hmap2.lookup_int key35 Ybaz.underlying119 Ybaz.underlying3 (zero3 _) hkey
  rw [Maps.atKey_put_same hmapU.isMap (key_lit _)] at hat2
  simp only [DataW.lit.injEq, Lit.int.injEq, true_and] at hat2
  subst hat2
  obtain ⟨es, ck, hmbU, _⟩ := hmapU
  have hgb2 : W2.heap[gb]? = some (.cells #[x0, .int .i64 (n + 1 : Nat), .slice (some ⟨sb, 0, none⟩) 1 1, x3, x4] 117 (0, 0)) := (hgr2.block gb (lt_blk hgbU) (fun e => by cases e; exact ne_map hgbU hmbU rfl)).trans hgbU
  have hsb2 : W2.heap[sb]? = some (.cells #[.map (some (Y.heap.size + 1))] 119 (0, 0)) := (hgr2.block sb (lt_blk hsbU) (fun e => by cases e; exact ne_map hsbU hmbU rfl)).trans hsbU
  have hC2 : Ch 0 (fun k o => k = gb ∨ k = sb) w W2 := by
    have h3 : Ch 0 (fun k o => k = gb ∨ k = sb ∨ k = Y.heap.size + 1) w W2 := (hCU.mono (fun k o _ _ h => by rcases h with h | h <;> simp [h])).trans (Ch.of_grown hgr2 (fun k hk => by cases hk; exact ⟨Nat.zero_le _, fun _ _ => .inr (.inr rfl)⟩))
    exact h3.mono (fun k o hk _ h => by
      rcases h with h | h | h
      · exact .inl h
      · exact .inr h
      · have := lt_blk hk; omega)
  have z2 : W2.cell? ⟨gb, 2, none⟩ = some (.slice (some ⟨sb, 0, none⟩) 1 1) := by rw [cell_blk hgb2]; rfl
  have z0 : W2.cell? ⟨sb, 0, none⟩ = some (.map (some (Y.heap.size + 1))) := by rw [cell_blk hsb2]; rfl
  have hex : ∃ mb D', W2.heap[sb]? = some (.cells #[.map (some mb)] 119 (0, 0)) ∧ w.heap.size ≤ mb ∧ W2.ownsMap Ybaz.prog 35 (plainElem Ybaz.prog 3) mb 1 D' ∧ SeenD D' [v] := ⟨Y.heap.size + 1, _, hsb2, by omega, by simpa using hmap2, by simpa using hD2⟩
  have HE := hid' (And.intro hgb2 (And.intro hex hC2))
  rw [hU, hZ] at hlk hup
  clear hU hsY hZs hCU hmbU hmap2 hgr2 hD2 hex hgb hGB hCY hgbY hGBY hsb hsbY hgbZ hsbZ hgb2 hsb2 hC2 hZ hRB hkey hwc hwc2 hgbU hsbU
  have qM := map_nil
  have hmm := @run_makeMap Ybaz.prog
  go_enter Ybaz.func17, Ybaz.ntmps17
  go_wp2
  rw [← hY]
  clear hY c1 f1
  refine wp_loop_rounds 2 ?_
  rw [rounds_succ]
  go_wp2
  rw [rounds_succ]
  go_wp2
  refine bodyPost_end (results_none rfl _ _ _) rfl ?_
  exact ⟨rfl, HE.out⟩

/-! ### the least and the greatest -/
theorem slice_nn (w : World) : (binOp .neq 115 (.slice none 0 0) (.slice none 0 0)).run Ybaz.prog w = .ok (.bool false) w := by kernel_rfl

set_option maxRecDepth 100000 in
set_option maxHeartbeats 1000000 in
theorem add_first {w : World} {gb GB RB bb v : Nat} {op : Int} {x0 x2 mp bv : Value} (hop : op = 1 ∨ op = 2)
    (hgb : w.heap[gb]? = some (.cells #[x0, .int .i64 (0 : Nat), x2, .slice (some ⟨bb, 0, none⟩) 1 1, .slice none 0 0] 117 (0, 0))) (hGB : w.heap[GB]? = some (.cells #[.int .i64 1, .int .u8 op, .int .i64 1] 59 (0, 0)))
    (hRB : w.cell? ⟨RB, 1, none⟩ = some (.int .u32 v)) (hRBg : RB ≠ gb) (hRBl : RB < w.heap.size) (hbb : w.heap[bb]? = some (.cells #[bv] 35 (0, 0))) :
    Calls Ybaz.prog 17 #[.pointer (some ⟨gb, 0, none⟩), mp, .slice (some ⟨GB, 0, none⟩) 1 1, .slice (some ⟨RB, 0, none⟩) 2 2, .int .i64 1] w fun e w' => e = .returned (.tuple #[]) ∧
      w'.heap[gb]? = some (.cells #[x0, .int .i64 (1 : Nat), x2, .slice (some ⟨bb, 0, none⟩) 1 1, .slice none 0 0] 117 (0, 0)) ∧ w'.heap[bb]? = some (.cells #[.int .u32 v] 35 (0, 0)) ∧
      Ch 0 (fun k o => k = gb ∨ k = bb) w w' := by
  have c1 : w.cell? ⟨gb, 1, none⟩ = some (.int .i64 0) := by rw [cell_blk hgb]; rfl
  have f1 := free_blk hgb 1
  have hne : GB ≠ gb := ne_blk hGB hgb (by decide)
  have hne2 : bb ≠ gb := ne_blk hbb hgb (by decide)
  obtain ⟨Y, hY⟩ : ∃ Y, Y = w.setCell ⟨gb, 1, none⟩ (.int .i64 1) := ⟨_, rfl⟩
  have hCY : Ch 0 (fun k o => k = gb ∨ k = bb) w Y := by rw [hY]; exact (Ch.refl _ _ _).setCell (Nat.zero_le _) (fun _ _ => .inl rfl) _
  have hgbY : Y.heap[gb]? = some (.cells #[x0, .int .i64 (1 : Nat), x2, .slice (some ⟨bb, 0, none⟩) 1 1, .slice none 0 0] 117 (0, 0)) := by rw [hY, set_blk hgb]; rfl
  have hGBY : Y.heap[GB]? = some (.cells #[.int .i64 1, .int .u8 op, .int .i64 1] 59 (0, 0)) := by rw [hY, set_other hne]; exact hGB
  have hbbY : Y.heap[bb]? = some (.cells #[bv] 35 (0, 0)) := by rw [hY, set_other hne2]; exact hbb
  have hRBY : Y.cell? ⟨RB, 1, none⟩ = some (.int .u32 v) := by
    unfold World.cell? at hRB ⊢
    rw [hY, set_other hRBg]
    exact hRB
  have hsY : Y.heap.size = w.heap.size := by rw [hY]; simp [World.setCell]
  have lRB : RB < Y.heap.size := by omega
  have g0 : Y.cell? ⟨GB, 0, none⟩ = some (.int .i64 1) := by rw [cell_blk hGBY]; rfl
  have g1 : Y.cell? ⟨GB, 1, none⟩ = some (.int .u8 op) := by rw [cell_blk hGBY]; rfl
  have g2 : Y.cell? ⟨GB, 2, none⟩ = some (.int .i64 1) := by rw [cell_blk hGBY]; rfl
  have y1 : Y.cell? ⟨gb, 1, none⟩ = some (.int .i64 1) := by rw [cell_blk hgbY]; rfl
  have y3 : Y.cell? ⟨gb, 3, none⟩ = some (.slice (some ⟨bb, 0, none⟩) 1 1) := by rw [cell_blk hgbY]; rfl
  have y4 : Y.cell? ⟨gb, 4, none⟩ = some (.slice none 0 0) := by rw [cell_blk hgbY]; rfl
  have b0 : Y.cell? ⟨bb, 0, none⟩ = some bv := by rw [cell_blk hbbY]; rfl
  have fb := free_blk hbbY 0
  have lgb := lt_blk hgbY
  have lbb := lt_blk hbbY
  have hE : ∀ nq, (((Y.alloc (.cells #[.int .i64 1, .int .u8 op, .int .i64 1] 59)).drewN nq).setCell ⟨bb, 0, none⟩ (.int .u32 v)).heap[gb]? = some (.cells #[x0, .int .i64 (1 : Nat), x2, .slice (some ⟨bb, 0, none⟩) 1 1, .slice none 0 0] 117 (0, 0)) ∧
      (((Y.alloc (.cells #[.int .i64 1, .int .u8 op, .int .i64 1] 59)).drewN nq).setCell ⟨bb, 0, none⟩ (.int .u32 v)).heap[bb]? = some (.cells #[.int .u32 v] 35 (0, 0)) ∧ Ch 0 (fun k o => k = gb ∨ k = bb) w (((Y.alloc (.cells #[.int .i64 1, .int .u8 op, .int .i64 1] 59)).drewN nq).setCell ⟨bb, 0, none⟩ (.int .u32 v)) := by
    intro nq
    refine ⟨?_, ?_, ((hCY.alloc _).drewN nq).setCell (Nat.zero_le _) (fun _ _ => .inr rfl) _⟩
    · rw [set_other (Ne.symm hne2)]; exact alloc_old _ hgbY
    · rw [set_blk (show ((Y.alloc (.cells #[.int .i64 1, .int .u8 op, .int .i64 1] 59)).drewN nq).heap[bb]? = _ from alloc_old _ hbbY)]; rfl
  have HE := hid' hE
  have h0 : decide (op = 0) = false := by rcases hop with rfl | rfl <;> rfl
  have h0' : ¬ op = 0 := by rcases hop with rfl | rfl <;> omega
  clear hE hsY hgb hGB hCY hgbY hGBY hbb hbbY hRB hop
  have qM := slice_nn
  go_enter Ybaz.func17, Ybaz.ntmps17
  go_wp2
  rw [← hY]
  clear hY c1 f1
  refine wp_loop_rounds 2 ?_
  rw [rounds_succ]
  go_wp2
  go_quiet (fail)
  go_wp2
  rw [rounds_succ]
  go_wp2
  refine bodyPost_end (results_none rfl _ _ _) rfl ?_
  exact ⟨rfl, HE.out _⟩
end Go.Proofs.YbulkeifqGreat
