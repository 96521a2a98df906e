/-
  THE LAW (3): the walk, from its first row to 'aggregate'.
-/
import Derived.Test.YbulkeifqGreatAgg
import Derived.Test.YbulkeifqGreatDistWalk
import Derived.Test.YbulkeifqGreatLawT2
import Derived.WalkKit
import Derived.WalkSpells
import Derived.WalkLawsBesides
import Derived.Deep.QuietTactic
import Derived.BigQuiet
import Derived.Deep.DeepCutAuto
import Derived.Deep.CutBlock
namespace Go.Proofs.YbulkeifqGreat
open Go.RowKit Go.Maps
set_option linter.unusedVariables false

set_option maxRecDepth 100000 in
set_option maxHeartbeats 4000000 in
theorem law_any {w : World} {a0 : Option Addr} {n cap b off : Nat} {op stop : Nat} {K : Nat → Nat} {V : Nat → Int} (hA : 0 < n → a0 = some ⟨b, off, none⟩)
    (hc : ∀ i, i < n → w.cell? ⟨b, off + i * 2, none⟩ = some (.int .u8 (K i)) ∧ w.cell? ⟨b, off + i * 2 + 1, none⟩ = some (.int .i64 (V i))) (hK : ∀ i, i < n → K i < 256) (hV : ∀ i, i < n → (Lit.int .i64 (V i)).wf = true) (hop : op ≤ 255) (hst : stop ≤ 255) (hn : n ≤ 1048576) (hcap : n ≤ cap) :
    Calls Ybaz.prog 3 #[.slice a0 n cap, .int .u8 op, .int .u8 stop] w fun e w' => e = .returned (.bool true) ∧ Below w.heap.size w w' := by
  obtain ⟨D0, hD0, hmk⟩ := make_data hn
  have HA := hid' (And.intro hA (And.intro hc (And.intro hK hV)))
  clear hA hc hK hV
  have hn' : ¬ (1048576 : Int) < (n : Int) := by omega
  go_enter Ybaz.func3, Ybaz.ntmps3
  go_upto_block 0 with (go_at_call 4; refine (newMachine_any _).mono ?_; rintro e w1 ⟨rfl, cs, rfl⟩)
  obtain ⟨X, hX⟩ : ∃ X, X = (((w.alloc (.cells cs 31)).alloc (.map #[] 0)).alloc (.cells #[.pointer none, .slice none 0 0, .map (some (w.heap.size + 1)), .slice none 0 0, .int .i64 256, .int .i64 0, .slice none 0 0, .slice none 0 0, .int .i64 0, .pointer none, .int .i64 0, .int .i64 0] 31)).alloc (.cells D0 35) := ⟨_, rfl⟩
  have H0 := hid' (law_start (K := K) (V := V) hD0 hX)
  rw [← hX]
  clear hX hmk hD0
  go_cut [10] (fun s10 wc => ∃ vs, Hid (L1 w wc (w.heap.size + 1 + 1) (w.heap.size + 1) (w.heap.size + 1 + 1 + 1) n n K V vs))
  case first =>
    go_wp2_with fail
    go_loopw [51] (fun i wr => ∃ (q : Nat) (vs : List Int), i = .int .i64 q ∧ q ≤ n ∧ Hid (L1 w wr (w.heap.size + 1 + 1) (w.heap.size + 1) (w.heap.size + 1 + 1 + 1) n q K V vs)) (fun i _ => n - (intOf i).toNat)
    case atStart => exact ⟨0, [], rfl, Nat.zero_le _, H0⟩
    case round =>
      obtain ⟨q, vs, rfl, hqn, H1⟩ := hrel
      by_cases hlt : q < n
      · have hlt' : (q : Int) < (n : Int) := by omega
        obtain ⟨hA, hc, hK, hV⟩ := HA.out
        obtain rfl := hA (by omega)
        obtain ⟨c1, c2⟩ := hc q hlt
        have hKq := hK q hlt
        have hVq := hV q hlt
        have r1 := cell_later H1.out.bel c1
        have r2 := cell_later H1.out.bel c2
        clear hA hc hK hV c1 c2
        have hB := H1.out.bel.size
        have hvl := H1.out.len
        have HK := hid' (wf_u8 hKq)
        have HVq := hid' hVq
        clear hVq
        go_upto_region 9 with fail
        obtain ⟨W1, hW1⟩ : ∃ W1, W1 = wr.alloc (.cells #[.int .u8 (K q : Int), .int .i64 (V q)] 34) := ⟨_, rfl⟩
        have hb1 : Below wr.heap.size wr W1 := by rw [hW1]; exact (Below.refl _ _).alloc (Nat.le_refl _) _
        have x34 : W1.heap[wr.heap.size]? = some (.cells #[.int .u8 (K q : Int), .int .i64 (V q)] 34 (0, 0)) := by rw [hW1]; exact alloc_new _ _
        rw [← hW1]
        clear hW1 r1 r2
        have cK : W1.cell? ⟨wr.heap.size, 0, none⟩ = some (.int .u8 (K q : Int)) := by rw [cell_blk x34]; rfl
        have lK := lt_blk x34
        have H34 := hid' x34
        clear x34
        have Hb1 := hid' hb1
        have hs1 := hb1.size
        clear hb1
        have hq2 : (2 * (q : Int)) < 2 * (n : Int) := by omega
        go_upto_region 10 with (first | (go_at_call 6; refine (intValue_any _ _).mono ?_; rintro e W2 ⟨rfl, hW2⟩; have hb2 : Below W1.heap.size W1 W2 := (by rw [hW2]; exact (Below.refl _ _).alloc (Nat.le_refl _) _); have Hb2 := hid' hb2; have hs2 := hb2.size; clear hb2 hW2) | (go_at_call 5; refine (intern_any (((H1.out.mach).below Hb1.out).below Hb2.out) (K q : Int) HK.out (by omega) (by omega)).mono ?_; rintro e W3 ⟨ext, hx, hm, rfl, hM3, hf3⟩; obtain ⟨x3, i3, j3, l3⟩ := (((H1.out.ids.below Hb1.out).below Hb2.out).fr (((H1.out.mach).below Hb1.out).below Hb2.out) hf3).cell (j := 2 * q) (by omega); have H3 := hid' (And.intro hx (And.intro hm (And.intro hM3 hf3))); clear hx hm hM3 hf3))
        have hM2 := ((H1.out.mach).below Hb1.out).below Hb2.out
        have hI3 := (((H1.out.ids.below Hb1.out).below Hb2.out).fr hM2 H3.out.2.2.2)
        have h343 := fr34 ((Hb2.out.block _ (lt_blk H34.out)).trans H34.out) hM2 H3.out.2.2.2
        obtain ⟨W4, hW4⟩ : ∃ W4, W4 = W3.setCell ⟨w.heap.size + 1 + 1 + 1, 2 * q, none⟩ (.int .u32 ((vs ++ ext).idxOf (K q : Int) : Nat)) := ⟨_, rfl⟩
        have hI4 : Ids W4 (w.heap.size + 1 + 1 + 1) (2 * n) := by rw [hW4]; exact hI3.set
        have hM4 : Mach W4 w.heap.size (w.heap.size + 1 + 1) (w.heap.size + 1) (vs ++ ext) (.slice none 0 0) ((0 : Nat) : Int) := by rw [hW4]; exact hI3.mach H3.out.2.2.1 (by omega)
        have h344 : W4.heap[wr.heap.size]? = some (.cells #[.int .u8 (K q : Int), .int .i64 (V q)] 34 (0, 0)) := by
          obtain ⟨cs, hcs, _⟩ := hI3
          rw [hW4]
          exact (set_other (ne_blk h343 hcs (by decide)) _ _).trans h343
        rw [← hW4]
        have cV : W4.cell? ⟨wr.heap.size, 1, none⟩ = some (.int .i64 (V q)) := by rw [cell_blk h344]; rfl
        have lV := lt_blk h344
        have hs4 : W3.heap.size ≤ W4.heap.size := by rw [hW4]; simp [World.setCell]
        have hs3 := H3.out.2.2.2.size
        have hel : ext.length ≤ 1 := by rcases H3.out.1 with h | h <;> rw [h] <;> simp
        have H4 := hid' (And.intro hI4 hM4)
        have HW4 := hid' hW4
        clear hI4 hM4 h344 h343 hI3 hM2 hW4 i3 j3 l3 cK
        have hq3 : (2 * (q : Int) + 1) < 2 * (n : Int) := by omega
        go_wp2_with (first | (go_at_call 6; refine (intValue_any _ _).mono ?_; rintro e W5 ⟨rfl, hW5⟩; have hb5 : Below W4.heap.size W4 W5 := (by rw [hW5]; exact (Below.refl _ _).alloc (Nat.le_refl _) _); have Hb5 := hid' hb5; have hs5 := hb5.size; clear hb5 hW5) | (go_at_call 5; refine (intern_any (H4.out.2.below Hb5.out) (V q) HVq.out (by simp; omega) (by omega)).mono ?_; rintro e W6 ⟨ext', hx, hm, rfl, hM6, hf6⟩; obtain ⟨x6, i6, j6, l6⟩ := ((H4.out.1.below Hb5.out).fr (H4.out.2.below Hb5.out) hf6).cell (j := 2 * q + 1) (by omega); have H6 := hid' (And.intro hx (And.intro hm (And.intro hM6 hf6))); clear hx hm hM6 hf6))
        have hS := H1.out.step (o := .map #[] 0) (o' := .map #[] 0) hlt (Hb1.out.trans (Hb2.out.mono hs1)) H3.out.2.2.2 H3.out.1 H3.out.2.1 (HW4.out ▸ Hb5.out) H6.out.2.2.2 H6.out.1 H6.out.2.1 H6.out.2.2.1
        rw [List.append_assoc] at hS
        refine ⟨⟨q + 1, vs ++ (ext ++ ext'), rfl, hlt, hid' hS⟩, ?_⟩
        simp [intOf]
        omega
      · have hlt' : ¬ (q : Int) < (n : Int) := by omega
        obtain rfl : q = n := by omega
        go_wp2_with fail
        go_meet
        exact ⟨vs, H1⟩
  case rest =>
    obtain ⟨vs, H1⟩ := hcut
    go_upto_block 2 with fail
    obtain ⟨sel, hsel, hs4⟩ : ∃ sel : Nat, ((op : Int) % 4) = (sel : Int) ∧ sel < 4 := ⟨op % 4, by omega, by omega⟩
    obtain ⟨Y0, hY0⟩ : ∃ Y0, Y0 = (wc.alloc (.cells #[.string ⟨#[113]⟩, .int .i64 2, .slice (some ⟨w.heap.size + 1 + 1 + 1, 0, none⟩) (2 * n) (2 * n), .int .i64 n, .pointer none, .slice none 0 0, .slice none 0 0, .int .i64 0, .int .i64 0, .int .i64 n, .int .i64 (-1)] 46)).alloc (.cells #[.int .i64 0, .bool true, .int .i64 0, .int .u32 0, .int .i64 1, .bool true, .int .i64 1, .int .u32 0] 51) := ⟨_, rfl⟩
    have z0 : wc.heap.size + 1 + 1 = Y0.heap.size := by rw [hY0]; simp
    have HY0 := hid' hY0
    rw [hsel, ← hY0, z0]
    clear hY0
    go_cut [92] (fun s92 wd => ∃ op' rg : Int, SelOK sel op' rg ∧ wd = (Y0.alloc (.cells #[.int .u8 0, .int .i64 0, .int .i32 (-1), .pointer (some ⟨wc.heap.size, 0, none⟩), .pointer none, .slice none 0 0, .slice none 0 0, .slice (some ⟨wc.heap.size + 1, 0, none⟩) 2 2, .string ⟨#[]⟩, .pointer none, .pointer none, .int .i64 (-1), .pointer none, .bool false, .bool false] 56)).alloc (.cells #[.int .i64 1, .int .u8 op', .int .i64 rg] 59))
    case first =>
      rcases (by omega : sel = 0 ∨ sel = 1 ∨ sel = 2 ∨ sel = 3) with h | h | h | h <;> subst h
      · go_wp2_with fail
        go_meet
        exact ⟨0, -1, .inl ⟨rfl, rfl, rfl⟩, rfl⟩
      · go_wp2_with fail
        go_meet
        exact ⟨0, 1, .inr (.inl ⟨rfl, rfl, rfl⟩), rfl⟩
      · go_wp2_with fail
        go_meet
        exact ⟨1, 1, .inr (.inr (.inl ⟨rfl, rfl, rfl⟩)), rfl⟩
      · go_wp2_with fail
        go_meet
        exact ⟨2, 1, .inr (.inr (.inr ⟨rfl, rfl, rfl⟩)), rfl⟩
    case rest =>
      obtain ⟨op', rg, hSel, rfl⟩ := hcut
      go_upto_region 25 with fail
      obtain ⟨Y1, hY1⟩ : ∃ Y1, Y1 = (((((Y0.alloc (oStep wc.heap.size (wc.heap.size + 1))).alloc (oAgg op' rg)).alloc (oStep wc.heap.size (wc.heap.size + 1))).alloc oHead).alloc (oAgg op' rg)).alloc (.cells (rCells (Y0.heap.size + 1 + 1) (Y0.heap.size + 1 + 1 + 1) (Y0.heap.size + 1 + 1 + 1 + 1)) 71) := ⟨_, rfl⟩
      have HY1 := hid' hY1
      rw [← hY1]
      clear hY1
      have hmk2 : ∀ w, (Instr.makeSlice 26 (.int .i64 2) (.int .i64 2)).run Ybaz.prog w = .ok (.slice (some ⟨w.heap.size, 0, none⟩) 2 2) (w.alloc (.cells #[.int .u32 0, .int .u32 0] 35)) := fun _ => by kernel_rfl
      go_upto_region 31 with (go_at_call 7; refine (refStep_any _).mono ?_; rintro e w7 ⟨rfl, rfl⟩)
      obtain ⟨Y2, hY2⟩ : ∃ Y2, Y2 = ((((w7.alloc (.cells #[.int .u32 2] 72)).alloc (.cells #[.int .u32 0, .int .u32 0] 35)).alloc (.cells #[.int .i64 stop] 3)).alloc (.cells #[.slice none 0 0] 75)).alloc (.cells #[.int .i64 0] 3) := ⟨_, rfl⟩
      obtain ⟨sS, sM, sR, sH, sG, sP, sB, sV, sGV, sCV, sbel, sle, sD, skd, svl⟩ := law_static H1.out hn HY0.out HY1.out hY2
      have HAg := hid' (aggregate_any (k := 0) (v := 0) sS sM sR rfl rfl rfl sH sG sB sP (by omega) (by omega) hSel.mode skd hn svl sGV sCV sV (by omega) hst (by omega) (by omega))
      have Hbel := hid' sbel
      rw [← hY2]
      clear hY2 sS sM sR sH sG sP sB sV sGV sCV sbel sle sD skd svl hmk2
      go_upto_region 32 with (go_at_call 10; refine HAg.out.mono ?_; rintro e w10 ⟨L, ext, Ts, cur, E0, g1, g2, g3, g4, ⟨cc, g5⟩, g6, rfl, g7⟩; have HR := hid' (And.intro g1 (And.intro g2 (And.intro g3 (And.intro g4 (And.intro g5 (And.intro g6 g7)))))); clear g1 g2 g3 g4 g5 g6 g7)
      obtain ⟨g1, g2, g3, g4, g5, g6, g7⟩ := HR.out
      obtain ⟨hA, hc, hK, hV⟩ := HA.out
      obtain ⟨e1, e2⟩ := tuples_ok (K := K) (V := V) (fun i hi => H1.out.mem i hi) (fun i hi => ⟨rfl, rfl⟩) g1 g4
      rw [e1] at g6 ⊢
      exact law_t2 hA hc hK hn g3 g5 e2 hSel (Hbel.out.trans g7) g6 hst (by assumption)
end Go.Proofs.YbulkeifqGreat
