/-
  THE CLOSURE of 'aggregate' (13): the walk.
-/
import Derived.Test.YbulkeifqGreatFoundLaws
import Derived.WalkKit
import Derived.WalkSpells
import Derived.WalkLawsBesides
import Derived.Deep.RegionWith
import Derived.Deep.RegionHeld3
import Derived.Deep.QuietTactic
import Derived.BigQuiet
import Derived.Deep.DeepCutAuto
import Derived.Deep.CutBlock
import Derived.Maps.AppendAt
namespace Go.Proofs.YbulkeifqGreat
open Go.RowKit Go.Maps
set_option linter.unusedVariables false


set_option maxRecDepth 100000 in
set_option maxHeartbeats 4000000 in
theorem found_any {w : World} {v0 v1 v2 v3 v4 v5 v6 RU HB GB RB KB GM M I G0 B N : Nat} {op rg : Int} {vs : List Int} {k v : Nat} {cur : Value} {work : Int} {L : List GR} (h : CF w v0 v1 v2 v4 v5 RU HB GB RB KB GM M op rg k v) (hA : ASt w v3 v6 KB GM G0 op rg vs N L)
    (hM : Mach w B M I vs cur work) (hmd : Mode op rg) (hk : k < vs.length) (hv : v < vs.length) (hN : N ≤ 1048576) (hB : B ≤ G0) (hI : I < G0) (hIG : I ≠ GM) (hRB : RB < G0) :
    Calls Ybaz.prog 13 #[.pointer (some ⟨v0, 0, none⟩), .pointer (some ⟨v1, 0, none⟩), .pointer (some ⟨v2, 0, none⟩), .pointer (some ⟨v3, 0, none⟩), .pointer (some ⟨v4, 0, none⟩), .pointer (some ⟨v5, 0, none⟩), .pointer (some ⟨v6, 0, none⟩)] w fun e w' => e = .returned (.bool true) ∧
      (∃ L', ASt w' v3 v6 KB GM G0 op rg vs (N + 1) L' ∧ L'.map (fun g => (g.k, g.xs)) = ins k v (L.map (fun g => (g.k, g.xs)))) ∧ Ch 0 (OnC KB v3 v6 GM G0) w w' := by
  obtain ⟨x0, x1, hKB⟩ := hA.kb
  obtain ⟨ao, n, cap, xs, hn, h3, hown⟩ := hA.by3
  have hG0 := hA.low.2.2.2.2
  have hml := hM.len
  have e1 : v1 ≠ KB := ne_blk h.b1 hKB (by decide)
  have e2 : v2 ≠ KB := ne_blk h.b2 hKB (by decide)
  have e4 := h.ne
  have e6 : v3 ≠ KB := ne_blk h3 hKB (by decide)
  obtain ⟨c0, c1, c2, c4, c5, c15, c16, g0, g1⟩ := h.cells
  obtain ⟨h0, h1, h2, h3'⟩ := h.hcells
  have lv0 := lt_blk h.b0
  have H := hid' (And.intro h hKB)
  have H3 := hid' (And.intro h3 (And.intro hown (And.intro hG0 hn)))
  have HA := hid' hA
  have HM := hid' hM
  clear h hKB h3 hown hG0 hn hA hM
  go_enter Ybaz.func13, Ybaz.ntmps13
  go_upto_block 0 with fail
  go_cut [16] (fun s16 wc => CF wc v0 v1 v2 v4 v5 RU HB GB RB KB GM M op rg k v ∧ wc.heap[KB]? = some (.cells #[.int .u32 k, .int .u32 v] 35 (0, 0)) ∧ Ch 0 (OnB KB 35) w wc)
  case first =>
    clear HA HM
    obtain ⟨Z, hZ⟩ : ∃ Z, Z = w.alloc (.cells #[.int .i64 0, .int .u32 0] 49) := ⟨_, rfl⟩
    have hbx : Z.heap[w.heap.size]? = some (.cells #[.int .i64 0, .int .u32 0] 49 (0, 0)) := by rw [hZ]; exact alloc_new _ _
    have hKZ : Z.heap[KB]? = some (.cells #[x0, x1] 35 (0, 0)) := by rw [hZ]; exact alloc_old _ H.out.2
    have hcZ : CF Z v0 v1 v2 v4 v5 RU HB GB RB KB GM M op rg k v := by rw [hZ]; exact H.out.1.up ((Below.refl _ _).alloc (Nat.le_refl _) _)
    have e3 : w.heap.size ≠ KB := ne_blk hbx hKZ (by decide)
    have HZ := hid' (And.intro hZ (And.intro hcZ (And.intro hbx hKZ)))
    clear hZ hcZ hbx hKZ
    go_wp2
    refine wp_loop_rounds 3 ?_
    rw [rounds_succ]
    go_wp2
    rw [← HZ.out.1]
    clear c0 c1 c2 c4 c5 c15 c16 g0 g1 h0 h1 h2 h3' lv0
    obtain ⟨c0, c1, c2, c4, c5, c15, c16, g0, g1⟩ := HZ.out.2.1.cells
    clear c0 c4 c5 c15 c16 g1
    have b0 : Z.cell? ⟨w.heap.size, 0, none⟩ = some (.int .i64 0) := by rw [cell_blk HZ.out.2.2.1]; rfl
    have b1 : Z.cell? ⟨w.heap.size, 1, none⟩ = some (.int .u32 0) := by rw [cell_blk HZ.out.2.2.1]; rfl
    have lK := lt_blk HZ.out.2.2.2
    have k0 : Z.cell? ⟨KB, 0, none⟩ = some x0 := by rw [cell_blk HZ.out.2.2.2]; rfl
    have f0 := free_blk HZ.out.2.2.2 0
    go_region_held3 (fun w' => w'.cell? ⟨v2, 0, none⟩ = some (.slice (some ⟨KB, 0, none⟩) 2 2) ∧ w'.cell? ⟨w.heap.size, 0, none⟩ = some (.int .i64 0) ∧ w'.cell? ⟨w.heap.size, 1, none⟩ = some (.int .u32 0) ∧ w'.cell? ⟨v1, 0, none⟩ = some (.slice (some ⟨RB, 0, none⟩) 2 2) ∧ w'.cell? ⟨RB, 0, none⟩ = some (.int .u32 k))
      (first | exact ⟨c2, b0, b1, c1, g0⟩ | exact ⟨cell_sa c2 e2, cell_sa b0 e3, cell_sa b1 e3, cell_sa c1 e1, cell_sa g0 e4⟩ | exact ⟨cell_up _ c2, cell_up _ b0, cell_up _ b1, cell_up _ c1, cell_up _ g0⟩)
      (first | (go_at_call 14; refine (get_any 0 RB 2 2 (.int .u32 k) (.int .u32 0) Z.drew (by omega) (by omega) g0).mono ?_; rintro e w14 ⟨rfl, rfl⟩))
    obtain ⟨Y, hY⟩ : ∃ Y, Y = ((Z.setCell ⟨KB, 0, none⟩ (.int .u32 k)).alloc (.cells #[.int .i64 0, .int .u32 0] 49)).drew := ⟨_, rfl⟩
    rw [← hY]
    rename_i hHeld
    obtain ⟨hKY, hCY⟩ := key_step HZ.out.1 hY H.out.2
    have hcY := H.out.1.keepB hCY
    have HY := hid' (And.intro hcY (And.intro hKY hCY))
    clear hHeld hY HZ c1 c2 g0 b0 b1 lK k0 f0 hKY hCY hcY e3
    obtain ⟨h0, h1, h2, h3⟩ := HY.out.1.hcells
    clear h0 h1
    obtain ⟨Z2, hZ⟩ : ∃ Z, Z = Y.alloc (.cells #[.int .i64 1, .int .u32 0] 49) := ⟨_, rfl⟩
    have hbx : Z2.heap[Y.heap.size]? = some (.cells #[.int .i64 1, .int .u32 0] 49 (0, 0)) := by rw [hZ]; exact alloc_new _ _
    have hKZ : Z2.heap[KB]? = some (.cells #[.int .u32 k, x1] 35 (0, 0)) := by rw [hZ]; exact alloc_old _ HY.out.2.1
    have hcZ : CF Z2 v0 v1 v2 v4 v5 RU HB GB RB KB GM M op rg k v := by rw [hZ]; exact HY.out.1.up ((Below.refl _ _).alloc (Nat.le_refl _) _)
    have e3 : Y.heap.size ≠ KB := ne_blk hbx hKZ (by decide)
    have HZ := hid' (And.intro hZ (And.intro hcZ (And.intro hbx hKZ)))
    clear hZ hcZ hbx hKZ
    go_wp2
    rw [rounds_succ]
    go_wp2
    rw [← HZ.out.1]
    clear h2 h3
    obtain ⟨c0, c1, c2, c4, c5, c15, c16, g0, g1⟩ := HZ.out.2.1.cells
    clear c0 c4 c5 c15 c16 g0
    have b0 : Z2.cell? ⟨Y.heap.size, 0, none⟩ = some (.int .i64 1) := by rw [cell_blk HZ.out.2.2.1]; rfl
    have b1 : Z2.cell? ⟨Y.heap.size, 1, none⟩ = some (.int .u32 0) := by rw [cell_blk HZ.out.2.2.1]; rfl
    have lK := lt_blk HZ.out.2.2.2
    have k0 : Z2.cell? ⟨KB, 1, none⟩ = some x1 := by rw [cell_blk HZ.out.2.2.2]; rfl
    have f0 := free_blk HZ.out.2.2.2 1
    go_region_held3 (fun w' => w'.cell? ⟨v2, 0, none⟩ = some (.slice (some ⟨KB, 0, none⟩) 2 2) ∧ w'.cell? ⟨Y.heap.size, 0, none⟩ = some (.int .i64 1) ∧ w'.cell? ⟨Y.heap.size, 1, none⟩ = some (.int .u32 0) ∧ w'.cell? ⟨v1, 0, none⟩ = some (.slice (some ⟨RB, 0, none⟩) 2 2) ∧ w'.cell? ⟨RB, 1, none⟩ = some (.int .u32 v))
      (first | exact ⟨c2, b0, b1, c1, g1⟩ | exact ⟨cell_sa c2 e2, cell_sa b0 e3, cell_sa b1 e3, cell_sa c1 e1, cell_sa g1 e4⟩ | exact ⟨cell_up _ c2, cell_up _ b0, cell_up _ b1, cell_up _ c1, cell_up _ g1⟩)
      (first | (go_at_call 14; refine (get_any 1 RB 2 2 (.int .u32 v) (.int .u32 0) Z2.drew (by omega) (by omega) g1).mono ?_; rintro e w14 ⟨rfl, rfl⟩))
    obtain ⟨X, hX⟩ : ∃ X, X = ((Z2.setCell ⟨KB, 1, none⟩ (.int .u32 v)).alloc (.cells #[.int .i64 1, .int .u32 0] 49)).drew := ⟨_, rfl⟩
    rw [← hX]
    rename_i hHeld
    obtain ⟨hKX, hCX⟩ := key_step HZ.out.1 hX HY.out.2.1
    have hcX := HY.out.1.keepB hCX
    have HX := hid' (And.intro hcX (And.intro hKX (HY.out.2.2.trans hCX)))
    clear hHeld hX HZ HY c1 c2 g1 b0 b1 lK k0 f0 hKX hCX hcX e3
    go_wp2
    rw [rounds_succ]
    go_wp2_with fail
    go_meet
    exact ⟨HX.out.1, HX.out.2.1, HX.out.2.2⟩
  case rest =>
    obtain ⟨hc, hK, hC⟩ := hcut
    have h3X := hC.keep H3.out.1 (fun hs => e6 hs.1)
    have ownX := hC.ownsRow H3.out.2.1 (fun b cs hb hs => by obtain ⟨_, cs', fr, e⟩ := hs; cases e)
    have hGX : G0 ≤ wc.heap.size := Nat.le_trans H3.out.2.2.1 hC.size
    clear c0 c1 c2 c4 c5 c15 c16 g0 g1 h0 h1 h2 h3'
    obtain ⟨c0, c1, c2, c4, c5, c15, c16, g0, g1⟩ := hc.cells
    have c3 : wc.cell? ⟨v3, 0, none⟩ = some (.slice ao n cap) := by rw [cell_blk h3X]; rfl
    have nb3 : ∀ {b : Nat} {cs : Array Value}, ¬ OnBytes b (.cells cs 79 (0, 0)) := by rintro b cs ⟨cs', fr, e⟩; cases e
    have HX := hid' (And.intro hc (And.intro hK (And.intro hC (And.intro h3X (And.intro ownX hGX)))))
    clear hc hK hC h3X ownX hGX
    go_upto_region 6 with fail
    go_cut [35] (fun s35 wd => CF wd v0 v1 v2 v4 v5 RU HB GB RB KB GM M op rg k v ∧ wd.heap[KB]? = some (.cells #[.int .u32 k, .int .u32 v] 35 (0, 0)) ∧ (∃ ao' cap', wd.heap[v3]? = some (.cells #[.slice ao' 8 cap'] 79 (0, 0)) ∧ wd.ownsRow G0 5 1 (.slice ao' 8 cap') 8 ((le32 k).map (Value.int .u8) ++ (le32 0).map (Value.int .u8))) ∧ Ch 0 (OnKey KB v3 G0) w wd)
    case first =>
      go_region_with (go_at_call 15; refine (groupKey_any ao cap k v G0 KB GB op rg wc.drew (by omega) (by omega) (ownsRow_cut HX.out.2.2.2.2.1) HX.out.2.2.2.2.2 HX.out.2.1 HX.out.1.gb).mono ?_; rintro e w15 ⟨ao', cap', rfl, own15, C15⟩; have h15 := C15.keep HX.out.2.2.2.1 nb3; have q15 := cell_blk h15 0; have f15 := free_blk h15 0; simp at q15)
      all_goals
        go_wp2_with fail
        go_meet
        exact key_mid HX.out.1 HX.out.2.1 HX.out.2.2.1 HX.out.2.2.2.1 ((Ch.refl _ _ _).drew.trans C15.zero) own15 hRB HA.out.low.1
    case rest =>
      clear c0 c1 c2 c4 c5 c15 c16 g0 g1 c3 nb3 HX
      obtain ⟨hc, hK, ⟨ao', cap', h3X, ownX⟩, hC⟩ := hcut
      obtain ⟨c0, c1, c2, c4, c5, c15, c16, g0, g1⟩ := hc.cells
      have c3 : wc.cell? ⟨v3, 0, none⟩ = some (.slice ao' 8 cap') := by rw [cell_blk h3X]; rfl
      have hkl : k < 4294967296 := by omega
      obtain ⟨D, hmp0, hD⟩ := HA.out.map
      have hmp := hC.ownsMap hmp0 (fun es ck => not_key_map)
      have hcv := conv_key ownX
      obtain ⟨rv, ps, hlk, hR⟩ := hmp.lookup key9 Ybaz.underlying88 (zero93 _) (show Rg (.pointer none) = some (.nil, []) from rfl) (keyOf9 k)
      have hMX : Mach wc B M I vs cur work := HM.out.ch hC (fun cs => not_key (by decide) (by decide) (by decide)) (fun b cs => not_key (by decide) (by decide) (by decide)) (fun es ck => not_key_map)
      obtain ⟨top, t1, t2⟩ := HA.out.grps
      have tX := t2.keep hC (fun b o a _ hg => onKey_grp HA.out.low.1 a hg)
      have hsz := hC.size
      rcases part_key (fun g : GR => g.k) k L with hno | ⟨A, g, C, hL, hgk, hA'⟩
      · rw [(hD k hkl).1 hno] at hR
        have hrv := Rg_nil hR
        subst hrv
        have qP := ptr_nil
        obtain ⟨i0, hi0, hz0, hz1, hz2⟩ := info_parts info93
        have HL := hid' (And.intro hc (And.intro hK (And.intro h3X (And.intro ownX (And.intro hC (And.intro hmp (And.intro hMX (And.intro hD (And.intro hno tX)))))))))
        clear hmp0 hD hmp hR hMX t1 t2 tX hc hK h3X ownX hC hsz hno
        go_wp2
        go_region_held3 (fun w' => w'.cell? ⟨v5, 0, none⟩ = some (.pointer (some ⟨M, 0, none⟩)) ∧ w'.cell? ⟨v2, 0, none⟩ = some (.slice (some ⟨KB, 0, none⟩) 2 2) ∧ w'.cell? ⟨v0, 0, none⟩ = some (.pointer (some ⟨RU, 0, none⟩)) ∧ w'.cell? ⟨RU, 16, none⟩ = some (.slice (some ⟨GB, 0, none⟩) 1 1))
          (first | exact ⟨c5, c2, c0, c16⟩ | exact ⟨cell_later bel c5, cell_later bel c2, cell_later bel c0, cell_later bel c16⟩)
          (first | (go_at_call 16; refine (newGroup_any (w := wc.drew) (k0 := (k : Int)) (k1 := (v : Int)) (.pointer (some ⟨M, 0, none⟩)) (some ⟨GB, 0, none⟩) HL.out.2.1).mono ?_; rintro e w16 ⟨gb, hb, hc', sb, bb, rfl, n1, n2, n3, n4, n5, l1, l2, l3, l4, bel⟩))
        rename_i hHeld
        have bel' : Below wc.heap.size wc w16 := ((Below.refl _ wc).drew).trans bel
        have C16 : Ch 0 (fun _ _ => False) wc w16 := Ch.of_below bel'
        have hc16 := HL.out.1.up bel'
        have hmp16 := C16.ownsMap HL.out.2.2.2.2.2.1 (fun _ _ h => h)
        have h3_16 := C16.keep HL.out.2.2.1 (fun h => h)
        have own16 := C16.ownsRow HL.out.2.2.2.1 (fun _ _ _ h => h)
        have hcv16 := conv_key own16
        obtain ⟨ov, o1, o2⟩ := HA.out.ord
        have h6_16 := C16.keep (HL.out.2.2.2.2.1.keep o1 (not_key (by decide) (by decide) (by decide))) (fun h => h)
        have ord16 := C16.ownsRow (HL.out.2.2.2.2.1.ownsRow o2 (fun b cs _ => not_key (by decide) (by decide) (by decide))) (fun _ _ _ h => h)
        have hLl := HA.out.len
        obtain ⟨w10, hup, hmp10, hgr10⟩ := hmp16.update key9 Ybaz.underlying88 (by unfold maxLen; omega) (keyOf9 k) (show Rg (.pointer (some ⟨gb, 0, none⟩)) = some (.lit (.int .i64 gb), []) from rfl)
        obtain ⟨h6_10, ord10⟩ := mid_pre hmp16 hgr10 h6_16 ord16
        have c6_10 : w10.cell? ⟨v6, 0, none⟩ = some ov := by rw [cell_blk h6_10]; rfl
        have c4_16 := hc16.cells.2.2.2.1
        have c3_16 : w16.cell? ⟨v3, 0, none⟩ = some (.slice ao' 8 cap') := by rw [cell_blk h3_16]; rfl
        have l6 := lt_blk h6_10
        have hG10 : G0 ≤ w10.heap.size := by
          have q1 := HA.out.low.2.2.2.2
          have q2 := HL.out.2.2.2.2.1.size
          have q3 := bel'.size
          have q4 := hgr10.size
          omega
        have HJ := hid' (And.intro hc16 (And.intro hmp16 (And.intro hgr10 (And.intro hmp10 (And.intro h6_16 (And.intro ord16 (And.intro h6_10 (And.intro ord10 (And.intro bel' C16)))))))))
        have HN := hid' (And.intro n1 (And.intro n2 (And.intro n3 (And.intro n4 (And.intro n5 (And.intro l1 (And.intro l3 l4)))))))
        clear hHeld bel bel' C16 hc16 hmp16 h3_16 own16 o1 o2 h6_16 ord16 hmp10 hgr10 h6_10 n1 n2 n3 n4 n5 l1 l2 l3 l4 hlk hcv c0 c1 c2 c3 c4 c5 c15 c16 g0 g1 qP
        go_wp2_with (at_builtin; refine wpList_append_own_at _ rfl _ _ 89 rfl G0 93 i0 (.pointer none) 1 8 Ybaz.underlying89 hi0 hz0 hz1 hz2 rfl (by decide) ov L.length _ rfl (ord10.alloc _) ⟨w10.heap.size, 0, none⟩ 1 1 [.pointer (some ⟨gb, 0, none⟩)] rfl rfl (cell_one_new _ _ _) (by simp [Value.oneCell']) (by unfold maxLen; omega) (by omega) (by simp; omega) ?_)
        intro v' w11 own11 gr11 hn11 hat11
        obtain ⟨ao1, cap1, rfl, _, _⟩ := ownsRow_shape own11
        have h6_11 := mid_11 HJ.out.2.2.2.2.2.2.1 ord10 gr11
        have c6_11 : w11.cell? ⟨v6, 0, none⟩ = some ov := by rw [cell_blk h6_11]; rfl
        have f6_11 := free_blk h6_11 0
        obtain ⟨cN, mapY, ordY⟩ := mid_new HJ.out.2.1 HJ.out.2.2.1 HJ.out.2.2.2.1 HJ.out.2.2.2.2.1 HJ.out.2.2.2.2.2.1 gr11 own11
        clear h6_11 gr11 own11 hn11 hat11 c6_10 c4_16 c3_16 hup hcv16 ord10 hG10 l6
        go_wp2_with fail
        obtain ⟨Y, hY⟩ : ∃ Y, Y = w11.setCell ⟨v6, 0, none⟩ (.slice ao1 (L.length + 1) cap1) := ⟨_, rfl⟩
        rw [← hY] at cN mapY ordY ⊢
        clear hY c6_11 f6_11
        have hcY := HJ.out.1.n cN
        have cNX : Ch 0 (OnN GM v6 G0) wc Y := (Ch.of_below HJ.out.2.2.2.2.2.2.2.2.1).trans cN
        have hsX : G0 ≤ wc.heap.size := Nat.le_trans HA.out.low.2.2.2.2 HL.out.2.2.2.2.1.size
        have hMY : Mach Y B M I vs cur work := HL.out.2.2.2.2.2.2.1.ch cNX (fun cs => not_N (by decide) (by decide)) (fun b cs => not_N (by decide) (by decide)) (fun es ck hs => by
          rcases hs with ⟨e, _⟩ | ⟨_, cs, fr, e⟩ | ⟨_, cs, fr, e⟩
          · exact hIG e
          · cases e
          · cases e)
        have hG16 : Grp w16 wc.heap.size w16.heap.size op rg vs gb k [] := grp_fresh HN.out.1 HN.out.2.1 HN.out.2.2.1 HN.out.2.2.2.1 HN.out.2.2.2.2.1 HN.out.2.2.2.2.2.1 HN.out.2.2.2.2.2.2.1 HN.out.2.2.2.2.2.2.2
        have hGY := hG16.keep cN (fun b o a _ hg => onN_grp HA.out.low.2.2.2.1 (by omega) hg)
        have hszY := cN.size
        have HAdd := hid' (add_any (w := Y.drew) (x0 := .int .u32 k) hmd hGY (hMY.below (Below.refl _ _).drew) (by omega) hcY.gb hcY.rb hv (by simp) (by simp) hszY)
        have HF := hid' (fun (w' : World) (hi' : Nat) (hG : Grp w' wc.heap.size hi' op rg vs gb k [v]) (h1 : wc.heap.size ≤ hi') (h2 : hi' ≤ w'.heap.size) (cA : Ch 0 (OnGrp wc.heap.size w16.heap.size) Y w') => ast_new HA.out HL.out.2.2.2.2.1 HL.out.2.1 HL.out.2.2.1 HL.out.2.2.2.1 HL.out.2.2.2.2.2.2.2.2.1 hv hk hkl cNX ordY HL.out.2.2.2.2.2.2.2.1 HL.out.2.2.2.2.2.1.isMap mapY hG h1 h2 cA)
        have HV := hid' (fun (hi' : Nat) => show (L ++ [(⟨gb, wc.heap.size, hi', k, [v]⟩ : GR)]).map (fun g => (g.k, g.xs)) = ins k v (L.map (fun g => (g.k, g.xs))) from by
          rw [ins_miss (fun p hp => by
            obtain ⟨a, ha, rfl⟩ := List.mem_map.1 hp
            exact HL.out.2.2.2.2.2.2.2.2.1 a ha)]
          simp)
        obtain ⟨c0, c1, c2, c4, c5, c15, c16, g0, g1⟩ := hcY.cells
        have Hc := hid' hcY
        have hRl : RB < wc.heap.size := by omega
        have hs16 := HJ.out.2.2.2.2.2.2.2.2.1.size
        clear hcY cNX hMY hG16 hGY cN mapY ordY
        go_wp2
        go_region_held3 (fun w' => w'.cell? ⟨v5, 0, none⟩ = some (.pointer (some ⟨M, 0, none⟩)) ∧ w'.cell? ⟨v0, 0, none⟩ = some (.pointer (some ⟨RU, 0, none⟩)) ∧ w'.cell? ⟨RU, 16, none⟩ = some (.slice (some ⟨GB, 0, none⟩) 1 1) ∧ w'.cell? ⟨v1, 0, none⟩ = some (.slice (some ⟨RB, 0, none⟩) 2 2))
          (first | exact ⟨c5, c0, c16, c1⟩ | (have hh := (Hc.out.up (Below.refl _ _).drew).grp cA17 hRl; exact ⟨hh.cells.2.2.2.2.1, hh.cells.1, hh.cells.2.2.2.2.2.2.1, hh.cells.2.1⟩))
          (first | (go_at_call 17; refine HAdd.out.mono ?_; rintro e w17 ⟨rfl, hi', q1, q2, q3, q4, cA17⟩))
        go_wp2
        go_ret
        obtain ⟨f1, f2⟩ := HF.out w17 hi' q4 (by omega) q2 ((Ch.refl _ _ _).drew.trans cA17)
        exact ⟨rfl, ⟨_, f1, HV.out _⟩, f2⟩
      · rw [(hD k hkl).2 A g C hL hgk hA'] at hR
        have hrv := Rg_some hR
        subst hrv
        rw [hL] at tX
        obtain ⟨s1, s2, s3, s4⟩ := Grps.split.1 tX
        have hlo := s1.le
        have htop := s4.le
        obtain ⟨a1, a2, a3, a4⟩ := HA.out.all g (by rw [hL]; simp)
        have HAdd := hid' (add_any (w := wc.drew) (x0 := .int .u32 k) hmd s3 (hMX.below (Below.refl _ _).drew) (by omega) hc.gb hc.rb hv a4 (by omega) (show g.hi ≤ wc.heap.size by omega))
        have HF := hid' (fun (w' : World) (hG : Grp w' g.lo g.hi op rg vs g.gb g.k (g.xs ++ [v])) (cA : Ch 0 (OnGrp g.lo g.hi) wc w') => ast_hit HA.out hC hK h3X ownX hL hv hG cA)
        have HV := hid' (show (A ++ { g with xs := g.xs ++ [v] } :: C).map (fun g => (g.k, g.xs)) = ins k v (L.map (fun g => (g.k, g.xs))) from by
          rw [hL, List.map_append, List.map_append, List.map_cons, List.map_cons, show ((g.k, g.xs) : Nat × List Nat) = (k, g.xs) from by rw [hgk], ins_hit (fun p hp => by
            obtain ⟨a, ha, rfl⟩ := List.mem_map.1 hp
            exact hA' a ha)]
          simp [hgk])
        have Hc := hid' hc
        have hRl : RB < g.lo := by omega
        clear hmp0 hD hmp hR hMX t1 t2 tX s1 s2 s3 s4 a1 a3 a4 hc hK h3X ownX hC hL hgk hA' hsz hlo htop
        go_wp2
        go_region_held3 (fun w' => w'.cell? ⟨v5, 0, none⟩ = some (.pointer (some ⟨M, 0, none⟩)) ∧ w'.cell? ⟨v0, 0, none⟩ = some (.pointer (some ⟨RU, 0, none⟩)) ∧ w'.cell? ⟨RU, 16, none⟩ = some (.slice (some ⟨GB, 0, none⟩) 1 1) ∧ w'.cell? ⟨v1, 0, none⟩ = some (.slice (some ⟨RB, 0, none⟩) 2 2))
          (first | exact ⟨c5, c0, c16, c1⟩ | (have hh := (Hc.out.up (Below.refl _ _).drew).grp cA17 hRl; exact ⟨hh.cells.2.2.2.2.1, hh.cells.1, hh.cells.2.2.2.2.2.2.1, hh.cells.2.1⟩))
          (first | (go_at_call 17; refine HAdd.out.mono ?_; rintro e w17 ⟨rfl, hi', q1, q2, q3, q4, cA17⟩))
        go_wp2
        go_ret
        obtain ⟨f1, f2⟩ := HF.out w17 (by rw [← q3 a2]; exact q4) ((Ch.refl _ _ _).drew.trans cA17)
        exact ⟨rfl, ⟨_, f1, HV.out⟩, f2⟩
end Go.Proofs.YbulkeifqGreat
