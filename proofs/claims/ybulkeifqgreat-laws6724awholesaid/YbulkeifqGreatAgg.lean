/-
  'aggregate' (10): the walk.
-/
import Derived.Test.YbulkeifqGreatAggEach
import Derived.Test.YbulkeifqGreatFound
import Derived.Test.YbulkeifqGreatExec
namespace Go.Proofs.YbulkeifqGreat
open Go.RowKit Go.Maps
set_option linter.unusedVariables false

theorem keep_ru {KB v3 v6 GM G0 RB M b : Nat} {cs : Array Value} : ¬ OnX KB v3 v6 GM G0 RB M b (.cells cs 71 (0, 0)) := by
  rintro (h | ⟨_, cs', fr, e⟩ | ⟨_, cs', fr, e⟩ | ⟨_, ⟨cs', fr, e⟩ | ⟨cs', fr, e⟩⟩)
  · exact notC (by decide) (by decide) (by decide) (by decide) (by decide) (by decide) (by decide) h
  · cases e
  · cases e
  · cases e
  · cases e

theorem keep_75 {KB v3 v6 GM G0 RB M b : Nat} {cs : Array Value} : ¬ OnX KB v3 v6 GM G0 RB M b (.cells cs 75 (0, 0)) := by
  rintro (h | ⟨_, cs', fr, e⟩ | ⟨_, cs', fr, e⟩ | ⟨_, ⟨cs', fr, e⟩ | ⟨cs', fr, e⟩⟩)
  · exact notC (by decide) (by decide) (by decide) (by decide) (by decide) (by decide) (by decide) h
  · cases e
  · cases e
  · cases e
  · cases e

theorem keep_3 {KB v3 v6 GM G0 RB M b : Nat} {cs : Array Value} (hb : b < G0) : ¬ OnX KB v3 v6 GM G0 RB M b (.cells cs 3 (0, 0)) := by
  rintro (h | ⟨_, cs', fr, e⟩ | ⟨_, cs', fr, e⟩ | ⟨h, _⟩)
  · exact notC (by decide) (by decide) (by decide) (by decide) (by decide) (by decide) (by decide) h
  · cases e
  · cases e
  · omega

theorem ch_below {B B' : Nat} {S : Nat → Obj → Prop} {w w' : World} (h : Ch B' S w w') (hS : ∀ k o, S k o → B ≤ k) (hB : B ≤ w.heap.size) : Below B w w' :=
  ⟨h.os, h.tape, h.output, h.size, fun k hk => by
    obtain ⟨o, ho⟩ : ∃ o, w.heap[k]? = some o := ⟨w.heap[k]'(by omega), Array.getElem?_eq_getElem _⟩
    rw [ho]
    exact h.blk k o ho (.inr fun hs => by have := hS k o hs; omega)⟩

/-- A round of the loop over the groups. -/
theorem agg_round {w X w' : World} {v0 v1 v2 v4 v5 RU HB GB RB KB GM M I G0 B E0 GV CV SV : Nat} {op rg : Int} {vs ext ex2 : List Int} {cur : Value} {work : Int} {stop i : Nat} {ov : Value} {L : List GR} {Ts : List TR} {g : GR} {r g9 cap9 : Nat}
    (h : LSt w v0 v1 v2 v4 v5 RU HB GB RB KB GM M I G0 B E0 GV CV SV op rg vs ext cur work stop i ov L Ts) (hg : L[i]? = some g) (hlo : G0 ≤ g.lo) (hhi : g.hi ≤ E0) (hBG : B ≤ GV) (hBC : B ≤ CV) (he : ex2.length ≤ 1) (hX : Mach X B M I (vs ++ (ext ++ ex2)) cur work) (hr : r < (vs ++ (ext ++ ex2)).length) (hR : ResOK op rg vs g.xs ((vs ++ (ext ++ ex2)).getD r 0))
    (cX : Ch 0 (OnFil B M I g.lo g.hi) w.drew X) (hE : ESt w' GV CV SV E0 stop ((i + 1 : Nat) : Int) (Ts ++ [⟨g9, cap9, g.k, r⟩])) (cE : Ch 0 (OnEm GV CV E0) X w') :
    LSt w' v0 v1 v2 v4 v5 RU HB GB RB KB GM M I G0 B E0 GV CV SV op rg vs (ext ++ ex2) cur work stop (i + 1) ov L (Ts ++ [⟨g9, cap9, g.k, r⟩]) ∧ Below B w w' := by
  have hl := h.low
  have hm := h.mach.lo
  have hw : B ≤ w.heap.size := by have := h.est.low; omega
  refine ⟨(h.below (Below.refl _ _).drew).step hg he hX hr hR cX (fun _ => hE) cE, ((Below.refl _ _).drew).trans ((ch_below cX (fun b o hs => ?_) hw).trans (ch_below cE (fun b o hs => ?_) (Nat.le_trans hw cX.size)))⟩
  · rcases hs with e | e | ⟨e, _⟩ | e
    · omega
    · omega
    · exact e
    · have := e.1; omega
  · rcases hs with ⟨e, _⟩ | ⟨e, _⟩ | ⟨e, _⟩ <;> omega

set_option maxRecDepth 100000 in
set_option maxHeartbeats 4000000 in
theorem aggregate_any {w : World} {SB RL DB AB n : Nat} {kd vd : Nat → Nat} {RU HB GB RB M I B PB GV CV SV : Nat} {op rg : Int} {vs : List Int} {k v stop : Nat} {rcs : Array Value}
    (hS : Scan w SB RL DB AB n kd vd) (hM : Mach w B M I vs (.slice none 0 0) ((0 : Nat) : Int)) (hRU : w.heap[RU]? = some (.cells rcs 71 (0, 0))) (h6 : rcs[6]? = some (.slice (some ⟨SB, 0, none⟩) 1 1)) (h15 : rcs[15]? = some (.slice (some ⟨HB, 0, none⟩) 2 2)) (h16 : rcs[16]? = some (.slice (some ⟨GB, 0, none⟩) 1 1))
    (hHB : w.heap[HB]? = some (.cells #[.int .i64 0, .int .u32 0, .int .i64 1, .int .u32 0] 49 (0, 0))) (hGB : w.heap[GB]? = some (.cells #[.int .i64 1, .int .u8 op, .int .i64 rg] 59 (0, 0))) (hRB : w.heap[RB]? = some (.cells #[.int .u32 k, .int .u32 v] 35 (0, 0))) (hPB : w.heap[PB]? = some (.cells #[.int .u32 2] 72 (0, 0)))
    (hBR : B ≤ RB) (hne : RB ≠ DB) (hmd : Mode op rg) (hkd : ∀ i, i < n → kd i < vs.length ∧ vd i < vs.length) (hn : n ≤ 1048576) (hvl : vs.length ≤ 2097152)
    (hGV : w.heap[GV]? = some (.cells #[.slice none 0 0] 75 (0, 0))) (hCV : w.heap[CV]? = some (.cells #[.int .i64 0] 3 (0, 0))) (hSV : w.heap[SV]? = some (.cells #[.int .i64 stop] 3 (0, 0))) (hCS : CV ≠ SV) (hstop : stop ≤ 255) (hBG : B ≤ GV) (hBC : B ≤ CV) :
    Calls Ybaz.prog 10 #[.pointer (some ⟨M, 0, none⟩), .pointer (some ⟨RU, 0, none⟩), .slice (some ⟨PB, 0, none⟩) 1 1, .slice (some ⟨RB, 0, none⟩) 2 2, .func (.func 8) #[] #[.pointer (some ⟨GV, 0, none⟩), .pointer (some ⟨CV, 0, none⟩), .pointer (some ⟨SV, 0, none⟩)]] w fun e w' => ∃ (L : List GR) (ext : List Int) (Ts : List TR) (cur : Value) (E0 : Nat), L.map (fun g => (g.k, g.xs)) = gath kd vd n ∧ (∀ g ∈ L, g.xs ≠ [] ∧ ∀ x ∈ g.xs, x < vs.length) ∧ Mach w' B M I (vs ++ ext) cur (n : Int) ∧
      TOK op rg vs (vs ++ ext) L Ts ∧ (∃ c, ESt w' GV CV SV E0 stop c Ts) ∧ Ts.length = min (stop + 1) L.length ∧ e = .returned (.bool (decide (L.length ≤ stop))) ∧ Below B w w' := by
  have c15 : w.cell? ⟨RU, 15, none⟩ = some (.slice (some ⟨HB, 0, none⟩) 2 2) := by rw [cell_blk hRU]; exact h15
  have hmm := @run_makeMap Ybaz.prog
  have hmk2 : ∀ w, (Instr.makeSlice 26 (.int .i64 2) (.int .i64 2)).run Ybaz.prog w = .ok (.slice (some ⟨w.heap.size, 0, none⟩) 2 2) (w.alloc (.cells #[.int .u32 0, .int .u32 0] 35)) := fun _ => by kernel_rfl
  obtain ⟨X0, hX0⟩ : ∃ X0, X0 = (((((w.alloc (.cells #[.pointer (some ⟨M, 0, none⟩)] 85)).alloc (.cells #[.pointer (some ⟨RU, 0, none⟩)] 60)).alloc (.cells #[.slice (some ⟨RB, 0, none⟩) 2 2] 26)).alloc (.map #[] 0)).alloc (.cells #[.map (some (w.heap.size + 1 + 1 + 1))] 88)).alloc (.cells #[.slice none 0 0] 89) := ⟨_, rfl⟩
  have hb0 : Below w.heap.size w X0 := by
    rw [hX0]
    exact ((((((Below.refl _ _).alloc (Nat.le_refl _) _).alloc (by simp) _).alloc (by simp; omega) _).alloc (by simp; omega) _).alloc (by simp; omega) _).alloc (by simp; omega) _
  have x60 : X0.cell? ⟨w.heap.size + 1, 0, none⟩ = some (.pointer (some ⟨RU, 0, none⟩)) := by
    have : X0.heap[w.heap.size + 1]? = some (.cells #[.pointer (some ⟨RU, 0, none⟩)] 60 (0, 0)) := by rw [hX0]; exact alloc_old _ (alloc_old _ (alloc_old _ (alloc_old _ (alloc_new' _ _ _ (by simp)))))
    rw [cell_blk this]; rfl
  have x15 := cell_later hb0 c15
  obtain ⟨X, hX⟩ : ∃ X, X = ((X0.alloc (.cells #[.int .u32 0, .int .u32 0] 35)).alloc (.cells #[.slice (some ⟨X0.heap.size, 0, none⟩) 2 2] 26)).alloc (.cells #[.slice none 0 0] 79) := ⟨_, rfl⟩
  obtain ⟨hXs, hXb⟩ := agg_start hX0 hX hS hM hRU h15 h16 hHB hGB hRB hPB hBR hne
  have hRUX := (hXb.block _ (lt_blk hRU)).trans hRU
  have HE := hid' (exec_any (hXs.below (Below.refl _ _).drew) hmd hkd hn (fun w' q L cur work k v a1 a2 a3 a4 a5 a6 => found_any a1 a2 a3 hmd a4 a5 a6 hXs.low.2.2.2.2.2.2.1 hXs.low.2.2.2.1 hXs.low.2.2.2.2.2.2.2.2.2 hXs.low.2.1))
  have HX0 := hid' (And.intro hX0 hb0)
  have HX := hid' (And.intro hX (And.intro hXs (And.intro hXb hRUX)))
  have hBw : B ≤ w.heap.size := by have := lt_blk hRB; omega
  have HV := hid' (And.intro hGV (And.intro hCV hSV))
  clear hGV hCV hSV
  clear hRU h15 hX0 hb0 c15 hX hXs hXb hRUX hS hM hHB hGB hRB hPB
  go_enter Ybaz.func10, Ybaz.ntmps10
  go_upto_region 3 with fail
  rw [← HX0.out.1]
  go_upto_region 5 with fail
  rw [← HX.out.1]
  clear x60 x15 hmm hmk2
  obtain ⟨d0, d1, d2, d4, d5, d15, d16, _, _⟩ := HX.out.2.1.cf.cells
  have d6 : X.cell? ⟨RU, 6, none⟩ = some (.slice (some ⟨SB, 0, none⟩) 1 1) := by rw [cell_blk HX.out.2.2.2]; exact h6
  go_region_held3 (fun w' => w'.cell? ⟨w.heap.size, 0, none⟩ = some (.pointer (some ⟨M, 0, none⟩)) ∧ w'.cell? ⟨w.heap.size + 1, 0, none⟩ = some (.pointer (some ⟨RU, 0, none⟩)) ∧ w'.cell? ⟨RU, 6, none⟩ = some (.slice (some ⟨SB, 0, none⟩) 1 1) ∧ w'.cell? ⟨w.heap.size + 1 + 1, 0, none⟩ = some (.slice (some ⟨RB, 0, none⟩) 2 2))
    (first | exact ⟨d5, d0, d6, d1⟩ | exact ⟨x12.cf.cells.2.2.2.2.1, x12.cf.cells.1, r12, x12.cf.cells.2.1⟩)
    (first | (go_at_call 12; refine HE.out.mono ?_; rintro e w12 ⟨rfl, ⟨L, cur, k2, v2, x12⟩, c12⟩; have r12 := ch_cell c12 (show X.drew.heap[RU]? = _ from HX.out.2.2.2) keep_ru d6))
  rename_i hHeld
  clear hHeld
  obtain ⟨ov, o1, o2⟩ := x12.ast.ord
  have old : ∀ {b : Nat} {o : Obj}, w.heap[b]? = some o → X.drew.heap[b]? = some o := fun {b o} h => (HX.out.2.2.1.block _ (lt_blk h)).trans h
  have hsz := HX.out.2.2.1.size
  have hL := agg_mid (GV := GV) (CV := CV) (SV := SV) (stop := stop) x12 o2 (c12.keep (old HV.out.1) keep_75) (c12.keep (old HV.out.2.1) (keep_3 (by have := lt_blk HV.out.2.1; omega))) (c12.keep (old HV.out.2.2) (keep_3 (by have := lt_blk HV.out.2.2; omega))) hCS hn hvl
  obtain ⟨ao, cap, rfl, hcap, hao⟩ := ownsRow_shape o2
  have cv6 : w12.cell? ⟨w.heap.size + 1 + 1 + 1 + 1 + 1, 0, none⟩ = some (.slice ao L.length cap) := by rw [cell_blk o1]; rfl
  have hlow := x12.low
  have hs0 := HX0.out.2.size
  have HBel : Hid (Below B w w12) := hid' ((HX.out.2.2.1.mono hBw).trans (((Below.refl _ _).drew).trans (ch_below c12 (fun b o hs => by
    rcases hs with (⟨e, _⟩ | ⟨e, _⟩ | ⟨e, _⟩ | ⟨e, _⟩ | ⟨e, _⟩) | ⟨e, _⟩ | ⟨e, _⟩ | ⟨e, _⟩ <;> omega) (by show B ≤ X.heap.size; omega))))
  have HVw := hid' x12.view
  have HL := hid' (And.intro hL (And.intro x12 c12))
  clear hlow hs0
  clear hL x12 c12 o1 o2 hao r12 d0 d1 d2 d4 d5 d15 d16 d6 old
  go_wp2
  go_loopw [35] (fun i wr => ∃ (q : Nat) (ext : List Int) (Ts : List TR), i = .int .i64 q ∧ LSt wr (w.heap.size + 1) (w.heap.size + 1 + 1) (X0.heap.size + 1) (w.heap.size + 1 + 1 + 1 + 1) w.heap.size RU HB GB RB X0.heap.size (w.heap.size + 1 + 1 + 1) M I X.heap.size B w12.heap.size GV CV SV op rg vs ext cur (n : Int) stop q (.slice ao L.length cap) L Ts ∧ q ≤ stop ∧ Hid (Below B w wr)) (fun i _ => L.length - (intOf i).toNat)
  case atStart => exact ⟨0, [], [], rfl, HL.out.1, Nat.zero_le _, HBel⟩
  case round =>
    obtain ⟨q, ext, Ts, rfl, hLq, hqs, HBq⟩ := hrel
    by_cases hlt : q < L.length
    · obtain ⟨g, hg, hglo, hghi, hgG, hgx, hgl, hgv⟩ := hLq.at hlt
      obtain ⟨k3, v3, hcf⟩ := hLq.cf
      obtain ⟨d0, d1, d2, d4, d5, d15, d16, _, _⟩ := hcf.cells
      have hlt' : (q : Int) < (L.length : Int) := by omega
      rcases hLq.ord.2 with ⟨_, h0⟩ | ⟨og, cap', cu, he, hb', hg', _⟩
      · omega
      · simp only [Value.slice.injEq] at he
        obtain ⟨rfl, _, rfl⟩ := he
        have cq : wr.cell? ⟨og, q, none⟩ = some (.pointer (some ⟨g.gb, 0, none⟩)) := by
          rw [hLq.ord.cellAt q (by omega), List.getElem?_map, hg]
          rfl
        have hl1 := hLq.low
        have hex := hLq.exl
        have HF := hid' (fill_anyB (w := wr.drew) hmd hgG hgx (by omega) hgv (hLq.mach.below (Below.refl _ _).drew) (by simp; omega) (by omega) (by omega) (Nat.le_trans hghi hLq.est.low.2.2.2) hcf.gb)
        have HQ := hid' (And.intro hLq (And.intro hg (And.intro hghi hcf)))
        clear hLq hg hghi hgG hgx hgl hgv hcf hl1 hex hg' hb'
        by_cases hqe : q = stop
        · have hbq : ((q : Int) != (stop : Int)) = false := by simp [hqe]
          have HQE := hid' hqe
          clear hqe
          go_wp2
          go_region_held3 (fun w' => w'.cell? ⟨w.heap.size, 0, none⟩ = some (.pointer (some ⟨M, 0, none⟩)) ∧ w'.cell? ⟨w.heap.size + 1, 0, none⟩ = some (.pointer (some ⟨RU, 0, none⟩)) ∧ w'.cell? ⟨RU, 16, none⟩ = some (.slice (some ⟨GB, 0, none⟩) 1 1))
            (first | exact ⟨d5, d0, d16⟩ | exact ⟨hc8.cells.2.2.2.2.1, hc8.cells.1, hc8.cells.2.2.2.2.2.2.1⟩ | exact ⟨hc18.cells.2.2.2.2.1, hc18.cells.1, hc18.cells.2.2.2.2.2.2.1⟩)
            (first | (go_at_call 18; refine HF.out.mono ?_; rintro e w18 ⟨hb, hc, ex2, r, rfl, p1, p2, p3, p4, p5, p6, p7⟩; have hc18 := (HQ.out.1.below (Below.refl _ _).drew).cff (HQ.out.2.2.2.up (Below.refl _ _).drew) p7 hglo; have hE18 := (HQ.out.1.below (Below.refl _ _).drew).fil p7 HQ.out.2.2.1) | (go_at_call 8; refine (emit_any hE18 p5 p6 (by have := HQ.out.1.len; have := HQ.out.1.low; omega) hstop (by have := HQ.out.1.len; have := HQ.out.1.low; omega)).mono ?_; rintro e w8 ⟨rfl, ⟨g9, cap9, hE8⟩, c8⟩; have hc8 := hc18.em c8 HQ.out.1.vlow.1 HQ.out.1.vlow.2))
          have HZ := hid' (agg_round HQ.out.1 HQ.out.2.1 hglo HQ.out.2.2.1 hBG hBC p1 p2 p3 p4 p7 hE8 c8)
          clear p1 p2 p3 p4 p5 p6 p7 hE8 c8 hc18 hE18 hc8
          rename_i hHeld
          clear hHeld
          go_wp2
          go_ret
          have hlen := HZ.out.1.len.1
          have hqe := HQE.out
          have hnl : ¬ L.length ≤ stop := by omega
          exact ⟨L, _, _, cur, _, HVw.out, fun g hg => ⟨(HQ.out.1.all g hg).1, (HQ.out.1.all g hg).2.2⟩, HZ.out.1.mach, HZ.out.1.tok, ⟨_, HZ.out.1.est⟩, by rw [hlen]; omega, by simp [hnl], HBq.out.trans HZ.out.2⟩
        · have hbq : ((q : Int) != (stop : Int)) = true := by simp; omega
          have HQE := hid' hqe
          clear hqe
          go_wp2
          go_region_held3 (fun w' => w'.cell? ⟨w.heap.size, 0, none⟩ = some (.pointer (some ⟨M, 0, none⟩)) ∧ w'.cell? ⟨w.heap.size + 1, 0, none⟩ = some (.pointer (some ⟨RU, 0, none⟩)) ∧ w'.cell? ⟨RU, 16, none⟩ = some (.slice (some ⟨GB, 0, none⟩) 1 1))
            (first | exact ⟨d5, d0, d16⟩ | exact ⟨hc8.cells.2.2.2.2.1, hc8.cells.1, hc8.cells.2.2.2.2.2.2.1⟩ | exact ⟨hc18.cells.2.2.2.2.1, hc18.cells.1, hc18.cells.2.2.2.2.2.2.1⟩)
            (first | (go_at_call 18; refine HF.out.mono ?_; rintro e w18 ⟨hb, hc, ex2, r, rfl, p1, p2, p3, p4, p5, p6, p7⟩; have hc18 := (HQ.out.1.below (Below.refl _ _).drew).cff (HQ.out.2.2.2.up (Below.refl _ _).drew) p7 hglo; have hE18 := (HQ.out.1.below (Below.refl _ _).drew).fil p7 HQ.out.2.2.1) | (go_at_call 8; refine (emit_any hE18 p5 p6 (by have := HQ.out.1.len; have := HQ.out.1.low; omega) hstop (by have := HQ.out.1.len; have := HQ.out.1.low; omega)).mono ?_; rintro e w8 ⟨rfl, ⟨g9, cap9, hE8⟩, c8⟩; have hc8 := hc18.em c8 HQ.out.1.vlow.1 HQ.out.1.vlow.2))
          have HZ := hid' (agg_round HQ.out.1 HQ.out.2.1 hglo HQ.out.2.2.1 hBG hBC p1 p2 p3 p4 p7 hE8 c8)
          clear p1 p2 p3 p4 p5 p6 p7 hE8 c8 hc18 hE18 hc8
          rename_i hHeld
          clear hHeld
          go_wp2
          have hqe := HQE.out
          refine ⟨⟨q + 1, ext ++ ex2, _, rfl, HZ.out.1, by omega, hid' (HBq.out.trans HZ.out.2)⟩, ?_⟩
          simp [intOf]
          omega
    · have hlt' : ¬ (q : Int) < (L.length : Int) := by omega
      have HQ := hid' hLq
      clear hLq
      go_wp2
      go_ret
      have hlen := HQ.out.len
      have hnl : L.length ≤ stop := by omega
      exact ⟨L, HVw.out, fun g hg => ⟨(HQ.out.all g hg).1, (HQ.out.all g hg).2.2⟩, ext, ⟨cur, HQ.out.mach⟩, Ts, HQ.out.tok, ⟨_, _, HQ.out.est⟩, by omega, by simp [hnl], HBq.out⟩
end Go.Proofs.YbulkeifqGreat
