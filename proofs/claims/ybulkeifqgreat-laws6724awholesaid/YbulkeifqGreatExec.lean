/-
  'exec' (12): the walk.
-/
import Derived.Test.YbulkeifqGreatExecLaws
import Derived.WalkKit
import Derived.WalkSpells
import Derived.WalkLawsBesides
import Derived.Deep.RegionWith
import Derived.Deep.RegionHeld3
import Derived.Deep.QuietTactic
import Derived.BigQuiet
import Derived.Deep.DeepCutAuto
import Derived.Deep.CutBlock
import Derived.Deep.LoopGhost
import Derived.Maps.AppendAt
namespace Go.Proofs.YbulkeifqGreat
open Go.RowKit Go.Maps
set_option linter.unusedVariables false

/-- The stack is empty, or holds one cursor at row r. -/
def Stk (w : World) (G0 : Nat) (s : Value) (r : Nat) : Prop := ∃ sb cap rcs, s = .slice (some ⟨sb, 0, none⟩) 1 cap ∧ G0 ≤ sb ∧ w.heap[sb]? = some (.cells rcs 109 (0, 0)) ∧ rcs[0]? = some (.int .i64 0) ∧ rcs[1]? = some (.int .i64 r)

theorem info109 : (Ybaz.prog.info? 109).map (fun i => (i.zero, i.size, i.bytes)) = some (some (.agg #[.int .i64 0, .int .i64 0]), 2, 16) := by kernel_rfl

theorem onNext_X {KB v3 v6 GM G0 RB M rb b : Nat} {rt : TypeId} {o : Obj} (hrt : rt = 3 ∨ rt = 109) (hrb : G0 ≤ rb) (h : OnNext RB rb M rt b o) : OnX KB v3 v6 GM G0 RB M b o := by
  rcases h with ⟨rfl, h⟩ | ⟨rfl, h⟩ | ⟨rfl, h⟩
  · exact .inr (.inl ⟨rfl, h⟩)
  · rcases hrt with rfl | rfl
    · exact .inr (.inr (.inr ⟨hrb, .inr h⟩))
    · exact .inr (.inr (.inr ⟨hrb, .inl h⟩))
  · exact .inr (.inr (.inl ⟨rfl, h⟩))

theorem XSt.cur {w : World} {SB RL DB AB n : Nat} {kd vd : Nat → Nat} {v0 v1 v2 v3 v4 v5 v6 RU HB GB RB KB GM M I G0 B PB : Nat} {op rg : Int} {vs : List Int} {cur : Value} {work : Int} {q k v : Nat} {L : List GR}
    (h : XSt w SB RL DB AB n kd vd v0 v1 v2 v3 v4 v5 v6 RU HB GB RB KB GM M I G0 B PB op rg vs cur work q k v L) (s : Value) : XSt (w.setCell ⟨M, 7, none⟩ s) SB RL DB AB n kd vd v0 v1 v2 v3 v4 v5 v6 RU HB GB RB KB GM M I G0 B PB op rg vs s work q k v L ∧ Ch 0 (OnX KB v3 v6 GM G0 RB M) w (w.setCell ⟨M, 7, none⟩ s) := by
  obtain ⟨vv, m1, m2⟩ := h.mach.blk
  obtain ⟨d, m3, m4⟩ := h.mach.ids
  have c : Ch 0 (OnB M 31) w (w.setCell ⟨M, 7, none⟩ s) := (Ch.refl _ _ _).setCell (Nat.zero_le _) (fun x hx => by rw [m1] at hx; cases hx; exact ⟨rfl, _, _, rfl⟩) _
  have nn : ∀ {b : Nat} {cs : Array Value} {t : TypeId} {fr : Nat × Nat}, t ≠ 31 → ¬ OnB M 31 b (.cells cs t fr) := by
    rintro b cs t fr h1 ⟨_, cs', fr', e⟩
    cases e
    exact h1 rfl
  have nm : ∀ {b : Nat} {es : Array MapEntry} {ck : Nat}, ¬ OnB M 31 b (.map es ck) := by rintro b es ck ⟨_, cs', fr', e⟩; cases e
  refine ⟨⟨h.scan.keep c (fun k cs => nn (by decide)) (fun k cs => nn (by decide)) (fun k cs => nn (by decide)) (fun cs => nn (by decide)), h.cf.keep c (fun b cs t ht _ => ?_) (fun cs => nn (by decide)), h.ast.ch c (fun cs => nn (by decide)) (fun b cs => nn (by decide)) (fun b cs => nn (by decide)) (fun b cs => nn (by decide)) (fun b cs => nn (by decide)) (fun es ck => nm) ?_, ⟨⟨vv, ?_, setCell_row m2 m1 (by decide) _⟩, ⟨d, setCell_map m3 m1 _, m4⟩, h.mach.nodup, h.mach.wf, h.mach.len, h.mach.lo⟩, h.view, c.keep h.plan (nn (by decide)), h.low⟩, c.mono (fun b o _ _ hs => .inr (.inr (.inl ⟨hs.1, hs.2⟩)))⟩
  · refine nn ?_
    rintro rfl
    simp at ht
  · rintro b o hb (⟨cs', t, fr, rfl, ht⟩ | ⟨es, ck, rfl⟩)
    · refine nn ?_
      rintro rfl
      simp at ht
    · exact nm
  · rw [set_blk m1]
    rfl

theorem XSt.mcell {w : World} {SB RL DB AB n : Nat} {kd vd : Nat → Nat} {v0 v1 v2 v3 v4 v5 v6 RU HB GB RB KB GM M I G0 B PB : Nat} {op rg : Int} {vs : List Int} {cur : Value} {work : Int} {q k v : Nat} {L : List GR}
    (h : XSt w SB RL DB AB n kd vd v0 v1 v2 v3 v4 v5 v6 RU HB GB RB KB GM M I G0 B PB op rg vs cur work q k v L) : w.cell? ⟨M, 7, none⟩ = some cur ∧ w.frozen? ⟨M, 7, none⟩ = false := by
  obtain ⟨vv, m1, m2⟩ := h.mach.blk
  exact ⟨by rw [cell_blk m1]; rfl, free_blk m1 7⟩

theorem grown_below {w w' : World} {o : Obj} (g : (w.alloc o).grownBy w' (Value.slice none 0 0).ownBlock) : Below w.heap.size w w' :=
  ((Below.refl _ _).alloc (Nat.le_refl _) o).trans (Below.mono (B := (w.alloc o).heap.size) ⟨g.os, g.tape, g.output, g.size, fun k hk => g.block k hk (by simp [Value.ownBlock])⟩ (by simp))

theorem stk_own {w : World} {G0 r : Nat} {v : Value} (h : w.ownsRow G0 109 2 v 1 [.int .i64 0, .int .i64 r]) : Stk w G0 v r := by
  rcases h.2 with ⟨_, h0⟩ | ⟨g, cap, cur, rfl, hb, hg, _⟩
  · omega
  · have c0 := h.cellAt 0 (by omega)
    have c1 := h.cellAt 1 (by omega)
    rw [cell_blk hg] at c0 c1
    exact ⟨g, cap, cur, rfl, hb, hg, by simpa using c0, by simpa using c1⟩

set_option maxRecDepth 100000 in
set_option maxHeartbeats 4000000 in
theorem exec_any {w : World} {SB RL DB AB n : Nat} {kd vd : Nat → Nat} {v0 v1 v2 v3 v4 v5 v6 RU HB GB RB KB GM M I G0 B PB : Nat} {op rg : Int} {vs : List Int} {k v : Nat}
    (h : XSt w SB RL DB AB n kd vd v0 v1 v2 v3 v4 v5 v6 RU HB GB RB KB GM M I G0 B PB op rg vs (.slice none 0 0) ((0 : Nat) : Int) 0 k v []) (hmd : Mode op rg) (hkd : ∀ i, i < n → kd i < vs.length ∧ vd i < vs.length) (hn : n ≤ 1048576)
    (hF : ∀ (w' : World) (q : Nat) (L : List GR) (cur : Value) (work : Int) (k v : Nat), CF w' v0 v1 v2 v4 v5 RU HB GB RB KB GM M op rg k v → ASt w' v3 v6 KB GM G0 op rg vs q L → Mach w' B M I vs cur work → k < vs.length → v < vs.length → q ≤ 1048576 →
      Calls Ybaz.prog 13 #[.pointer (some ⟨v0, 0, none⟩), .pointer (some ⟨v1, 0, none⟩), .pointer (some ⟨v2, 0, none⟩), .pointer (some ⟨v3, 0, none⟩), .pointer (some ⟨v4, 0, none⟩), .pointer (some ⟨v5, 0, none⟩), .pointer (some ⟨v6, 0, none⟩)] w' fun e w'' => e = .returned (.bool true) ∧
      (∃ L', ASt w'' v3 v6 KB GM G0 op rg vs (q + 1) L' ∧ L'.map (fun g => (g.k, g.xs)) = ins k v (L.map (fun g => (g.k, g.xs)))) ∧ Ch 0 (OnC KB v3 v6 GM G0) w' w'') :
    Calls Ybaz.prog 12 #[.pointer (some ⟨M, 0, none⟩), .slice (some ⟨SB, 0, none⟩) 1 1, .slice (some ⟨PB, 0, none⟩) 1 1, .slice (some ⟨RB, 0, none⟩) 2 2, .func (.func 13) #[] #[.pointer (some ⟨v0, 0, none⟩), .pointer (some ⟨v1, 0, none⟩), .pointer (some ⟨v2, 0, none⟩), .pointer (some ⟨v3, 0, none⟩), .pointer (some ⟨v4, 0, none⟩), .pointer (some ⟨v5, 0, none⟩), .pointer (some ⟨v6, 0, none⟩)]] w fun e w' =>
      e = .returned (.bool true) ∧ (∃ L cur k v, XSt w' SB RL DB AB n kd vd v0 v1 v2 v3 v4 v5 v6 RU HB GB RB KB GM M I G0 B PB op rg vs cur (n : Int) n k v L) ∧ Ch 0 (OnX KB v3 v6 GM G0 RB M) w w' := by
  obtain ⟨vv, hMb, hMo⟩ := h.mach.blk
  have m7 : w.cell? ⟨M, 7, none⟩ = some (.slice none 0 0) := by rw [cell_blk hMb]; rfl
  have H := hid' h
  have HF := hid' hF
  have HK := hid' hkd
  clear h hF hkd hMb hMo
  go_enter Ybaz.func12, Ybaz.ntmps12
  go_wp2
  go_loopg [11, 12] (n + 1) (fun gk s d wr => (gk = n + 1 ∧ s = .slice none 0 0 ∧ d = .int .i64 0 ∧ wr = w) ∨ (∃ q L, 0 < q ∧ q < n ∧ gk = n - q ∧ d = .int .i64 1 ∧ Stk wr G0 s (q + 1) ∧ XSt wr SB RL DB AB n kd vd v0 v1 v2 v3 v4 v5 v6 RU HB GB RB KB GM M I G0 B PB op rg vs (.slice none 0 0) ((q + 1 : Nat) : Int) q (kd q) (vd q) L ∧ Ch 0 (OnX KB v3 v6 GM G0 RB M) w wr))
  case atStart => exact .inl ⟨rfl, rfl, rfl, rfl⟩
  case round =>
    clear m7
    go_upto_block 2 with fail
    go_cut [11, 12] (fun s d wc => (n = 0 ∧ d = .int .i64 0 ∧ s = .slice none 0 0 ∧ XSt wc SB RL DB AB n kd vd v0 v1 v2 v3 v4 v5 v6 RU HB GB RB KB GM M I G0 B PB op rg vs (.slice none 0 0) ((0 : Nat) : Int) 0 k v [] ∧ Ch 0 (OnX KB v3 v6 GM G0 RB M) w wc) ∨
      (∃ q L, q < n ∧ n - q - 1 < gk ∧ d = .int .i64 1 ∧ ((n = 1 ∧ q = 0 ∧ s = .slice none 0 0) ∨ Stk wc G0 s (q + 1)) ∧ XSt wc SB RL DB AB n kd vd v0 v1 v2 v3 v4 v5 v6 RU HB GB RB KB GM M I G0 B PB op rg vs (.slice none 0 0) ((q + 1 : Nat) : Int) q (kd q) (vd q) L ∧ Ch 0 (OnX KB v3 v6 GM G0 RB M) w wc))
    case first =>
      rcases hrel with ⟨rfl, rfl, rfl, rfl⟩ | ⟨q, L, hq0, hq1, rfl, rfl, hS, hX, hC⟩
      · have p0 : wr.cell? ⟨PB, 0, none⟩ = some (.int .u32 2) := by rw [cell_blk H.out.plan]; rfl
        have lP := lt_blk H.out.plan
        go_wp2
        refine wp_loop_rounds 2 ?_
        rw [rounds_succ]
        go_wp2
        go_region_held3 (fun w' => w'.cell? ⟨PB, 0, none⟩ = some (.int .u32 2)) (exact p0) (first | (go_at_call 21; refine (step_any _).mono ?_; rintro e w21 ⟨rfl, hw⟩; rw [hw]; clear hw w21) | (go_at_call 22; refine (span_any _).mono ?_; rintro e w21 ⟨rfl, hw⟩; rw [hw]; clear hw w21))
        obtain ⟨X, hX⟩ : ∃ X, X = wr.drew := ⟨_, rfl⟩
        rw [← hX]
        have hXs : XSt X SB RL DB AB n kd vd v0 v1 v2 v3 v4 v5 v6 RU HB GB RB KB GM M I G0 B PB op rg vs (.slice none 0 0) ((0 : Nat) : Int) 0 k v [] := by rw [hX]; exact H.out.below (Below.refl _ _).drew
        have hXC : Ch 0 (OnX KB v3 v6 GM G0 RB M) wr X := by rw [hX]; exact (Ch.refl _ _ _).drew
        rename_i hHeld
        clear hHeld hX p0 lP
        obtain ⟨ccs, a1, a0, _⟩ := hXs.scan.step
        have s0 : X.cell? ⟨SB, 0, none⟩ = some (.int .u8 0) := by rw [cell_blk a1]; exact a0
        clear a1 a0
        have HXs := hid' (And.intro hXs hXC)
        clear hXs hXC
        go_wp2_with (go_at_call 24; refine (first_any HXs.out.1.scan _).mono ?_; rintro e w24 ⟨rfl, q24, hw24⟩; have HW := hid' hw24; clear hw24)
        obtain ⟨Y, hY⟩ : ∃ Y, Y = w24.alloc (.cells #[.int .i64 0] 3) := ⟨_, rfl⟩
        rw [← hY]
        have hs24 : w24.heap.size = X.heap.size := by rw [HW.out]; rfl
        have hbY : Below X.heap.size X Y := by rw [hY, HW.out]; exact (below_drewN (Below.refl _ _) _).alloc (Nat.le_refl _) _
        have hYs := HXs.out.1.below hbY
        have hYC := HXs.out.2.later hbY
        have hrow : Y.heap[w24.heap.size]? = some (.cells #[.int .i64 0] 3 (0, 0)) := by rw [hY]; exact alloc_new' _ _ _ rfl
        have crow : Y.cell? ⟨w24.heap.size, 0, none⟩ = some (.int .i64 0) := by rw [cell_blk hrow]; rfl
        have hGX : G0 ≤ w24.heap.size := by rw [hs24]; exact HXs.out.1.ast.low.2.2.2.2
        clear hY s0 hs24 HW
        by_cases hn0 : n = 0
        · subst hn0
          refine (next_no hYs.scan crow).mono ?_
          rintro e w25 ⟨rfl, q25, rfl⟩
          have HY := hid' (And.intro hYs hYC)
          clear hYs hYC hrow crow hbY
          go_wp2_with fail
          go_meet
          exact .inl ⟨trivial, rfl, rfl, HY.out.1.below (below_drewN (Below.refl _ _) _), HY.out.2.drewN _⟩
        · obtain ⟨vv1, hMb, _⟩ := hYs.mach.blk
          have hl := hYs.low
          refine (next_yes (B := 0) (ro := 0) (wk := 0) hYs.scan 0 (by omega) hYs.cf.rb hl.2.2.2.2.2.2.2.2.1 (Nat.zero_le _) (Nat.zero_le _) (Nat.zero_le _) hrow rfl (.inl rfl) hMb rfl (by omega)).mono ?_
          rintro e w25 ⟨rfl, r1, r2, r3, r4⟩
          have hZs := hYs.next (.inl rfl) hMb r1 r3 r4
          have hZC := hYC.trans (r4.mono (fun b o _ _ hb => onNext_X (KB := KB) (v3 := v3) (v6 := v6) (GM := GM) (.inl rfl) hGX hb))
          have crow' : w25.cell? ⟨w24.heap.size, 0, none⟩ = some (.int .i64 1) := by rw [cell_blk r2]; rfl
          have HZ := hid' (And.intro hZs hZC)
          clear hYs hYC hrow crow hbY hMb hl r1 r2 r3 r4 hZs hZC
          obtain ⟨i0, hi0, hz0, hz1, hz2⟩ := info_parts info109
          by_cases hn1 : 1 < n
          · have hd1 : decide ((1 : Int) < (n : Int)) = true := decide_eq_true (by omega)
            go_wp2_with (first | (go_at_call 26; refine (more_any HZ.out.1.scan 1 true hd1).mono ?_; rintro e w26 ⟨rfl, q26, hw26⟩; have crow26 : w26.cell? ⟨w24.heap.size, 0, none⟩ = some (.int .i64 1) := (by rw [hw26]; exact crow'); have HW := hid' hw26; have hGX26 : G0 ≤ w26.heap.size := (by rw [hw26]; exact HZ.out.1.ast.low.2.2.2.2); clear hw26 crow') | (at_builtin; refine wpList_append_own_at _ rfl _ _ 28 rfl G0 109 i0 (.agg #[.int .i64 0, .int .i64 0]) 2 16 Ybaz.underlying28 hi0 hz0 hz1 hz2 rfl (by decide) (.slice none 0 0) 0 [] rfl ⟨rfl, .inl ⟨rfl, rfl⟩⟩ ⟨w26.heap.size, 0, none⟩ 1 1 [.int .i64 0, .int .i64 1] rfl rfl (World.news_of_block (heap_alloc_new _ _)) (by simp [Value.oneCell']) (by unfold maxLen; omega) (by omega) (by simp; omega) ?_))
            intro v' w11 own11 gr11 hn11 hat11
            obtain ⟨ao1, cap1, rfl, _, _⟩ := ownsRow_shape own11
            have hb11 := grown_below gr11
            have hS11 : Stk w11 G0 (.slice ao1 (0 + 1) cap1) 1 := stk_own own11
            have HG := hid' (And.intro hb11 hS11)
            clear hb11 hS11 own11 gr11 hn11 hat11 crow26
            go_wp2_with fail
            rw [rounds_succ]
            go_wp2_with fail
            go_meet
            refine .inr ⟨0, [], by omega, by omega, rfl, .inr HG.out.2, ?_, ?_⟩
            · exact (show XSt w26 SB RL DB AB n kd vd v0 v1 v2 v3 v4 v5 v6 RU HB GB RB KB GM M I G0 B PB op rg vs (.slice none 0 0) ((0 + 1 : Nat) : Int) 0 (kd 0) (vd 0) [] by rw [HW.out]; exact HZ.out.1.below (below_drewN (Below.refl _ _) _)).below HG.out.1
            · exact (show Ch 0 (OnX KB v3 v6 GM G0 RB M) wr w26 by rw [HW.out]; exact HZ.out.2.drewN _).later HG.out.1
          · have hd1 : decide ((1 : Int) < (n : Int)) = false := decide_eq_false (by omega)
            go_wp2_with (go_at_call 26; refine (more_any HZ.out.1.scan 1 false hd1).mono ?_; rintro e w26 ⟨rfl, q26, hw26⟩; have HW := hid' hw26; clear hw26 crow')
            rw [rounds_succ]
            go_wp2_with fail
            go_meet
            have hn' : n = 1 := by omega
            refine .inr ⟨0, [], by omega, by omega, rfl, .inl ⟨hn', rfl, rfl⟩, ?_, ?_⟩
            · rw [HW.out]; exact HZ.out.1.below (below_drewN (Below.refl _ _) _)
            · rw [HW.out]; exact HZ.out.2.drewN _
      · have HS := hid' (And.intro hS (And.intro hX hC))
        clear hS hX hC
        go_wp2
        refine wp_loop_rounds 1 ?_
        rw [rounds_succ]
        go_wp2_with fail
        go_meet
        exact .inr ⟨q, L, hq1, by omega, rfl, .inr HS.out.1, HS.out.2.1, HS.out.2.2⟩
    case rest =>
      clear hrel
      rcases hcut with ⟨hn0, rfl, rfl, hX, hC⟩ | ⟨q, L, hq, hgk, rfl, hS, hX, hC⟩
      · obtain ⟨m7, f7⟩ := hX.mcell
        have HX := hid' (And.intro hX (And.intro hC hn0))
        clear hX hC hn0
        go_wp2
        refine wp_loop_rounds 1 ?_
        rw [rounds_succ]
        go_wp2
        go_ret
        obtain ⟨x1, x2⟩ := HX.out.1.cur (.slice none 0 0)
        have hn0 := HX.out.2.2
        exact ⟨rfl, ⟨[], _, _, _, by rw [hn0] at x1 ⊢; exact x1⟩, HX.out.2.1.trans x2⟩
      · have hb := HK.out q hq
        rcases hS with ⟨hn1, hq0, rfl⟩ | hS
        · have HX := hid' (And.intro hX (And.intro hC (And.intro hn1 hq0)))
          clear hX hC hn1 hq0
          go_wp2_with (go_at_call 13; refine (HF.out wc q L _ _ (kd q) (vd q) HX.out.1.cf HX.out.1.ast HX.out.1.mach hb.1 hb.2 (by omega)).mono ?_; rintro e w13 ⟨rfl, ⟨L', hA', hL'⟩, c13⟩)
          have hX13 := HX.out.1.found hA' hL' c13
          obtain ⟨m7, f7⟩ := hX13.mcell
          have HX13 := hid' (And.intro hX13 c13)
          clear hX13 hA' hL' c13
          refine wp_loop_rounds 1 ?_
          rw [rounds_succ]
          go_wp2
          go_ret
          obtain ⟨x1, x2⟩ := HX13.out.1.cur (.slice none 0 0)
          have hnq : n = q + 1 := by have := HX.out.2.2; omega
          exact ⟨rfl, ⟨L', _, _, _, by rw [hnq] at x1 ⊢; exact x1⟩, (HX.out.2.1.trans (HX13.out.2.mono (fun b o _ _ hs => .inl hs))).trans x2⟩
        · obtain ⟨sb, cap, rcs, rfl, hsb, hst, hr0, hr1⟩ := hS
          have HX := hid' (And.intro hX (And.intro hC (And.intro hst (And.intro hr0 hr1))))
          clear hX hC hst hr0 hr1
          go_wp2_with (go_at_call 13; refine (HF.out wc q L _ _ (kd q) (vd q) HX.out.1.cf HX.out.1.ast HX.out.1.mach hb.1 hb.2 (by omega)).mono ?_; rintro e w13 ⟨rfl, ⟨L', hA', hL'⟩, c13⟩)
          have hX13 := HX.out.1.found hA' hL' c13
          have hst13 := c13.keep HX.out.2.2.1 (notC (by decide) (by decide) (by decide) (by decide) (by decide) (by decide) (by decide))
          have cs0 : w13.cell? ⟨sb, 0, none⟩ = some (.int .i64 0) := by rw [cell_blk hst13]; exact HX.out.2.2.2.1
          have p0 : w13.cell? ⟨PB, 0, none⟩ = some (.int .u32 2) := by rw [cell_blk hX13.plan]; rfl
          have HX13 := hid' (And.intro hX13 (And.intro c13 hst13))
          clear hX13 hA' hL' c13 hst13
          refine wp_loop_rounds 2 ?_
          rw [rounds_succ]
          go_wp2
          go_region_held3 (fun w' => w'.cell? ⟨sb, 0, none⟩ = some (.int .i64 0) ∧ w'.cell? ⟨PB, 0, none⟩ = some (.int .u32 2)) (exact ⟨cs0, p0⟩) (first | (go_at_call 21; refine (step_any _).mono ?_; rintro e w21 ⟨rfl, hw⟩; rw [hw]; clear hw w21) | (go_at_call 22; refine (span_any _).mono ?_; rintro e w21 ⟨rfl, hw⟩; rw [hw]; clear hw w21))
          obtain ⟨X, hX⟩ : ∃ X, X = w13.drew := ⟨_, rfl⟩
          rw [← hX]
          have hXs := HX13.out.1.below (Below.refl _ _).drew
          have hXC : Ch 0 (OnX KB v3 v6 GM G0 RB M) w w13.drew := (HX.out.2.1.trans (HX13.out.2.1.mono (fun b o _ _ hs => .inl hs))).drew
          have hstX : w13.drew.heap[sb]? = some (.cells rcs 109 (0, 0)) := HX13.out.2.2
          rw [← hX] at hXs hXC hstX
          have hXd := hXs.below (Below.refl _ _).drew
          have hr0 := HX.out.2.2.2.1
          have hr1 := HX.out.2.2.2.2
          have HXX := hid' (And.intro hXs (And.intro hXC (And.intro hstX (And.intro hXd (And.intro hr0 hr1)))))
          clear hX hXs hXC hstX hXd hr0 hr1 cs0 p0 HX13 HX
          rename_i hHeld
          clear hHeld
          obtain ⟨vv1, hMb, _⟩ := HXX.out.2.2.2.1.mach.blk
          have HMb := hid' hMb
          clear hMb
          by_cases hqn : q + 1 < n
          · go_wp2
            go_region_held3 (fun w' => True) (trivial) (first | (go_at_call 25; refine (next_yes (w := X.drew) (B := 0) (rb := sb) (ro := 1) (rt := 109) (wk := q + 1) HXX.out.2.2.2.1.scan (q + 1) hqn HXX.out.2.2.2.1.cf.rb HXX.out.2.2.2.1.low.2.2.2.2.2.2.2.2.1 (Nat.zero_le _) (Nat.zero_le _) (Nat.zero_le _) HXX.out.2.2.1 HXX.out.2.2.2.2.2 (.inr rfl) HMb.out rfl (by omega)).mono ?_; rintro e w25 ⟨rfl, r1, r2, r3, r4⟩))
            have hs25 := HXX.out.2.2.2.1.next (.inr rfl) HMb.out r1 r3 r4
            have hC25 : Ch 0 (OnX KB v3 v6 GM G0 RB M) w w25 := HXX.out.2.1.drew.trans (r4.mono (fun b o _ _ hx => onNext_X (.inr rfl) hsb hx))
            have cs25 : w25.cell? ⟨sb, 0, none⟩ = some (.int .i64 0) := by
              rw [cell_blk r2]
              simpa [Array.getElem?_setIfInBounds] using HXX.out.2.2.2.2.1
            have hS25 : Stk w25 G0 (.slice (some ⟨sb, 0, none⟩) 1 cap) (q + 1 + 1) := by
              refine ⟨sb, cap, _, rfl, hsb, r2, by simpa [Array.getElem?_setIfInBounds] using HXX.out.2.2.2.2.1, ?_⟩
              have : 1 < rcs.size := (Array.getElem?_eq_some_iff.1 HXX.out.2.2.2.2.2).1
              simp [this]
            have H25 := hid' (And.intro hs25 (And.intro hC25 hS25))
            clear hs25 hC25 hS25 r1 r2 r3 r4
            go_wp2
            go_roundg (n - (q + 1))
            case measure => omega
            case rel => exact .inr ⟨q + 1, L', by omega, hqn, rfl, rfl, H25.out.2.2, H25.out.1, H25.out.2.1⟩
          · have hnq : n = q + 1 := by omega
            have hrow : X.drew.cell? ⟨sb, 1, none⟩ = some (.int .i64 n) := by
              rw [cell_blk (show X.drew.heap[sb]? = _ from HXX.out.2.2.1), HXX.out.2.2.2.2.2, hnq]
            have HR := hid' (And.intro hrow hnq)
            clear hrow hnq
            go_wp2
            go_region_held3 (fun w' => True) (trivial) (first | (go_at_call 25; refine (next_no (w := X.drew) HXX.out.2.2.2.1.scan HR.out.1).mono ?_; rintro e w25 ⟨rfl, q25, hw25⟩; have HW := hid' hw25; clear hw25))
            have hs25 : XSt w25 SB RL DB AB n kd vd v0 v1 v2 v3 v4 v5 v6 RU HB GB RB KB GM M I G0 B PB op rg vs (.slice none 0 0) ((q + 1 : Nat) : Int) (q + 1) (kd q) (vd q) L' := by rw [HW.out]; exact HXX.out.2.2.2.1.below (below_drewN (Below.refl _ _) _)
            have hC25 : Ch 0 (OnX KB v3 v6 GM G0 RB M) w w25 := by rw [HW.out]; exact HXX.out.2.1.drew.drewN _
            obtain ⟨m7, f7⟩ := hs25.mcell
            have H25 := hid' (And.intro hs25 hC25)
            clear hs25 hC25
            go_wp2
            rw [rounds_succ]
            go_wp2
            go_ret
            obtain ⟨x1, x2⟩ := H25.out.1.cur (.slice (some ⟨sb, 0, none⟩) 0 cap)
            have hnq := HR.out.2
            exact ⟨rfl, ⟨L', _, _, _, by rw [hnq] at x1 ⊢; exact x1⟩, H25.out.2.trans x2⟩
end Go.Proofs.YbulkeifqGreat
