/-
  THE WALKS OF 'LawS6725BAppend' (function 4).
-/
import Derived.Test.YbulkeigeRows
import Derived.Test.YbulkeigeLaws
import Derived.Test.YbulkeigeEnc
import Derived.Test.YbulkeigeModel
import Derived.Test.YbulkeigeCopy
import Derived.Test.YbulkeigeLength
import Derived.Test.YbulkeigeAppend
import Derived.Test.YbulkeigeWholeWalk
import Derived.WalkKit
import Derived.WalkSpells
import Derived.WalkLawsBesides
import Derived.Deep.QuietTactic
import Derived.BigQuiet
namespace Go.Proofs.Ybulkeige
open Go.RowKit
set_option linter.unusedVariables false

/-- The body's byte i. -/
def bodyAt (k : Int) (i : Nat) : Int := ((i : Int) * 7 + k) % 256
def bodyOf (k : Int) (L : Nat) : List Int := (List.range L).map (bodyAt k)

theorem bodyOf_len (k : Int) (L : Nat) : (bodyOf k L).length = L := by simp [bodyOf]
theorem bodyOf_at (k : Int) (L j : Nat) (h : j < L) : (bodyOf k L).getD j 0 = bodyAt k j := by simp [bodyOf, List.getD, h]

theorem and_63 (t : Int) (h0 : 0 ≤ t) (h : t < 256) : bits .and .u8 t 63 = t % 64 := by
  rw [u8_and t 63 h0 h (by omega) (by omega)]
  have : t.toNat &&& (63 : Int).toNat = t.toNat % 64 := Nat.and_two_pow_sub_one_eq_mod t.toNat 6
  rw [this]
  omega

theorem four_1 (zs : List Int) (len : Nat) (x : Value) (es fs : List Int) (j : Nat) (hj : j < len) (hl : len ≤ zs.length) :
    ((zs.take len).map (Value.int .u8) ++ x :: (es.map (Value.int .u8) ++ fs.map (Value.int .u8)))[j]? = some (.int .u8 (zs.getD j 0)) := by
  rw [List.getElem?_append_left (by simp; omega)]
  exact getD_take zs len j hj hl

theorem four_2 (zs : List Int) (len : Nat) (x : Value) (es fs : List Int) (hl : len ≤ zs.length) :
    ((zs.take len).map (Value.int .u8) ++ x :: (es.map (Value.int .u8) ++ fs.map (Value.int .u8)))[len]? = some x := by
  rw [List.getElem?_append_right (by simp; omega)]
  simp [Nat.min_eq_left hl]

theorem four_3 (zs : List Int) (len : Nat) (x : Value) (es fs : List Int) (j : Nat) (hj : j < es.length) (hl : len ≤ zs.length) :
    ((zs.take len).map (Value.int .u8) ++ x :: (es.map (Value.int .u8) ++ fs.map (Value.int .u8)))[len + 1 + j]? = some (.int .u8 (es.getD j 0)) := by
  rw [List.getElem?_append_right (by simp; omega)]
  have e : len + 1 + j - ((zs.take len).map (Value.int .u8)).length = j + 1 := by simp; omega
  rw [e, List.getElem?_cons_succ, List.getElem?_append_left (by simpa using hj)]
  simp [List.getD, hj]

theorem four_4 (zs : List Int) (len : Nat) (x : Value) (es fs : List Int) (j : Nat) (hj : j < fs.length) (hl : len ≤ zs.length) :
    ((zs.take len).map (Value.int .u8) ++ x :: (es.map (Value.int .u8) ++ fs.map (Value.int .u8)))[len + 1 + es.length + j]? = some (.int .u8 (fs.getD j 0)) := by
  rw [List.getElem?_append_right (by simp; omega)]
  have e : len + 1 + es.length + j - ((zs.take len).map (Value.int .u8)).length = es.length + j + 1 := by simp; omega
  rw [e, List.getElem?_cons_succ, List.getElem?_append_right (by simp)]
  simp [List.getD, hj]

/-- What the law reads behind its calls. -/
structure HeldA (w : World) (z e F : Nat → Int) (tg : Int) (b off len gc g h m bb L : Nat) (wx : World) : Prop where
  dst : ∀ j, j < len → wx.cell? ⟨b, off + j, none⟩ = some (.int .u8 (z j))
  cpy : ∀ j, j < len → wx.cell? ⟨gc, j, none⟩ = some (.int .u8 (z j))
  got : ∀ j, j < len → wx.cell? ⟨g, j, none⟩ = some (.int .u8 (z j))
  tag : wx.cell? ⟨g, len, none⟩ = some (.int .u8 tg)
  add : ∀ j, j < m → wx.cell? ⟨g, len + 1 + j, none⟩ = some (.int .u8 (e j))
  bod : ∀ j, j < L → wx.cell? ⟨g, len + 1 + m + j, none⟩ = some (.int .u8 (F j))
  wnt : ∀ j, j < m → wx.cell? ⟨h, j, none⟩ = some (.int .u8 (e j))
  bdy : ∀ j, j < L → wx.cell? ⟨bb, j, none⟩ = some (.int .u8 (F j))
  bel : Below w.heap.size w wx

theorem HeldA.drewN {w : World} {z e F : Nat → Int} {tg : Int} {b off len gc g h m bb L : Nat} {wx : World} (q : HeldA w z e F tg b off len gc g h m bb L wx) (n : Nat) : HeldA w z e F tg b off len gc g h m bb L (wx.drewN n) :=
  ⟨q.dst, q.cpy, q.got, q.tag, q.add, q.bod, q.wnt, q.bdy, below_drewN q.bel n⟩

set_option maxHeartbeats 400000 in
theorem walkA_big (a : Option Addr) (len cap : Nat) (t k : Int) (w : World) (h : 1048576 < len) :
    Calls Yba.prog 4 #[.slice a len cap, .int .u8 t, .int .u16 k] w fun e w' => e = .returned (.bool true) ∧ Below w.heap.size w w' := by
  go_enter Yba.func4, Yba.ntmps4
  go_wp2
  go_ret
  exact ⟨rfl, Below.refl _ _⟩

set_option maxRecDepth 100000 in
set_option maxHeartbeats 1000000 in
theorem walkA_some (b off len cap : Nat) (zs : List Int) (t k : Int) (L : Nat) (w : World) (h1 : 1 ≤ len) (hle : len ≤ 1048576) (hlc : len ≤ cap) (hz : zs.length = cap)
    (hc : ∀ i, i < zs.length → w.cell? ((⟨b, off, none⟩ : Addr).add i) = some (.int .u8 (zs.getD i 0))) (ht0 : 0 ≤ t) (ht1 : t ≤ 255) (hk0 : 0 ≤ k) (hk1 : k ≤ 65535) (hL0 : k * 131 % 70000 = (L : Int)) :
    Calls Yba.prog 4 #[.slice (some ⟨b, off, none⟩) len cap, .int .u8 t, .int .u16 k] w fun e w' => e = .returned (.bool true) ∧ Below w.heap.size w w' := by
  have hbw : b < w.heap.size := World.block_lt_of_cell? _ _ (hc 0 (by omega))
  have hL7 : L < 70000 := by omega
  have HC : Hid _ := hc
  clear hc
  have HL : Hid (k * 131 % 70000 = (L : Int)) := hL0
  clear hL0
  have hbig : ¬ (1048576 : Int) < (len : Int) := by omega
  obtain ⟨i0, hi, hz0, hz1, hz2⟩ := info_parts info5'
  go_enter Yba.func4, Yba.ntmps4
  go_wp2_with (at_make; rw [HL.out]; refine wpList_make_full _ rfl _ _ 22 rfl w.heap.size 5 i0 (.int .u8 0) 1 Yba.underlying22 hi hz0 hz1 .i64 .i64 _ _ L rfl rfl rfl rfl (by rw [hz2]; omega) (by unfold maxLen; omega) (Nat.le_refl _) ?_; intro w1 hown hgrow)
  have hB1 : Below w.heap.size w w1 := (Below.refl _ _).grown hgrow (Nat.le_refl _) (fun k h => by cases h)
  go_loopw [9] (fun i wr => ∃ q : Nat, q ≤ L ∧ i = .int .i64 q ∧ (∃ ys, wr.ownsRow w.heap.size 5 1 (.slice (some ⟨w.heap.size, 0, none⟩) L L) L ys ∧ ∀ j, j < q → ys[j]? = some (.int .u8 (bodyAt k j))) ∧ Below w.heap.size w wr) (fun i _ => L - (intOf i).toNat)
  case atStart => exact ⟨0, Nat.zero_le _, rfl, ⟨_, hown, fun j hj => absurd hj (Nat.not_lt_zero _)⟩, hB1⟩
  case round =>
    clear hown hgrow hB1
    obtain ⟨q, hq, rfl, ⟨ys, hown, hys⟩, hBr⟩ := hrel
    by_cases hlt : q < L
    · have hyl : ys.length = L := by have := hown.1; omega
      obtain ⟨u, hsk⟩ : ∃ u, wr.cell? ⟨w.heap.size, q, none⟩ = some u := ⟨ys[q]'(by omega), by rw [hown.cellAt q (by omega)]; simp [hyl, hlt]⟩
      have hfk := hown.frozenAt q
      obtain ⟨hst, hgr⟩ := hown.stored q (.int .u8 (((q : Int) * 7 + k) % 256))
      have hB2 := hBr.grown hgr (hBr.size) (fun k h => by cases h; exact Nat.le_refl _)
      have hys' : ∀ j, j < q + 1 → (ys.set q (.int .u8 (((q : Int) * 7 + k) % 256)))[j]? = some (.int .u8 (bodyAt k j)) := by
        intro j hj
        by_cases hjk : j = q
        · subst hjk; simp [hyl, hlt, bodyAt]
        · rw [List.getElem?_set_ne (by omega)]; exact hys j (by omega)
      clear hys hown hgr hyl
      go_wp2
      go_roundw
      case rel => exact ⟨q + 1, by omega, by go_num, ⟨_, hst, hys'⟩, hB2⟩
      case measure => simp [intOf]; omega
    · obtain rfl : q = L := by omega
      have hS : ∀ j, j < (bodyOf k q).length → wr.cell? ⟨w.heap.size, j, none⟩ = some (.int .u8 ((bodyOf k q).getD j 0)) := fun j hj => by
        rw [bodyOf_len] at hj
        rw [bodyOf_at k q j hj, hown.cellAt j (by omega)]; exact hys j hj
      have hF : ∀ i, i < zs.length → wr.cell? ((⟨b, off, none⟩ : Addr).add i) = some (.int .u8 (zs.getD i 0)) := fun i hi => by
        have := HC.out i hi
        rw [hBr.cell (World.block_lt_of_cell? _ _ this)]; exact this
      have hBs : w.heap.size < wr.heap.size := by
        rcases hown.2 with ⟨h', _⟩ | ⟨g', cap', cur, h', _, hg, _⟩
        · simp at h'
        · simp only [Value.slice.injEq, Option.some.injEq, Addr.mk.injEq, and_true, true_and] at h'
          obtain ⟨rfl, _⟩ := h'
          exact (Array.getElem?_eq_some_iff.1 hg).1
      have HS : Hid _ := hS
      have HF : Hid _ := hF
      have hlt' : ¬ (q : Int) < (q : Int) := by omega
      clear hS hF hown hys HC
      go_wp2_with fail
      refine (copy_any _ len cap zs wr hle (.inr ⟨_, rfl, hlc, hz, HF.out⟩)).mono ?_
      rintro e w2 ⟨ao, rfl, ow2, bl2⟩
      have hs2 := bl2.size
      have hand : bits .and .u8 t 63 = t % 64 := and_63 t ht0 (by omega)
      have hS2 : ∀ j, j < (bodyOf k q).length → w2.cell? ⟨w.heap.size, j, none⟩ = some (.int .u8 ((bodyOf k q).getD j 0)) := fun j hj => by
        rw [bl2.cell (p := ⟨w.heap.size, j, none⟩) hBs]; exact HS.out j hj
      have HS2 : Hid _ := hS2
      clear hS2
      go_wp2_with fail
      refine (append_any ao len _ (t % 64) w.heap.size q (bodyOf k q) w2 (by omega) (by omega) (by omega) (by omega) (bodyOf_len k q) (by omega) HS2.out (ownsRow_mono ow2 (Nat.zero_le _))).mono ?_
      rintro e w3 ⟨v3, rfl, bl3, ow3⟩
      obtain ⟨ao3, cap3, rfl, hc3, _⟩ := ownsRow_shape ow3
      go_wp2_with fail
      refine (model_any (q : Int) w3 (by omega) (by omega)).mono ?_
      rintro e w4 ⟨rfl, rfl⟩
      have hm := enc_len q
      obtain ⟨gc, rfl, hgc1, hgc2, hgc3⟩ := own_cells ow2 h1
      obtain ⟨g, rfl, hg1, hg2, hg3⟩ := own_cells ow3 (by omega)
      have hs3 := bl3.size
      have H : HeldA w (fun j => zs.getD j 0) (fun j => (enc q).getD j 0) (bodyAt k) (bits .or .u8 192 (t % 64)) b off len gc g w3.heap.size (enc q).length w.heap.size q (w3.alloc (.cells ((enc q).map (Value.int .u8)).toArray 5)) := by
        refine ⟨fun j hj => ?_, fun j hj => ?_, fun j hj => ?_, ?_, fun j hj => ?_, fun j hj => ?_, fun j hj => ?_, fun j hj => ?_, ?_⟩
        · rw [World.cell?_alloc_past _ _ _ (by omega), bl3.cell (p := ⟨b, off + j, none⟩) (by simp; omega), bl2.cell (p := ⟨b, off + j, none⟩) (by simp; omega)]
          have := HF.out j (by omega)
          rwa [Addr.add_lit] at this
        · rw [World.cell?_alloc_past _ _ _ (by omega), bl3.cell (p := ⟨gc, j, none⟩) (by simp; omega), hgc3 j hj]
          exact getD_take zs len j hj (by omega)
        · rw [World.cell?_alloc_past _ _ _ (by omega), hg3 j (by omega)]
          exact four_1 zs len _ _ _ j hj (by omega)
        · rw [World.cell?_alloc_past _ _ _ (by omega), hg3 len (by omega)]
          exact four_2 zs len _ _ _ (by omega)
        · rw [World.cell?_alloc_past _ _ _ (by omega), hg3 (len + 1 + j) (by omega)]
          exact four_3 zs len _ _ _ j hj (by omega)
        · rw [World.cell?_alloc_past _ _ _ (by omega), hg3 (len + 1 + (enc q).length + j) (by omega)]
          rw [four_4 zs len _ _ _ j (by rw [bodyOf_len]; exact hj) (by omega), bodyOf_at k q j hj]
        · rw [World.cell?_alloc_new]
          simp [List.getD, hj]
        · rw [World.cell?_alloc_past _ _ _ (by omega), bl3.cell (p := ⟨w.heap.size, j, none⟩) (by simp; omega)]
          have := HS2.out j (by rw [bodyOf_len]; exact hj)
          rwa [bodyOf_at k q j hj] at this
        · exact ((hBr.trans (bl2.mono (by omega))).trans (bl3.mono (by omega))).alloc (by omega) _
      clear ow2 ow3 hgc3 hg3 bl2 bl3 HF HS HS2 hBr
      generalize hmm : (enc q).length = m at *
      have Hm : Hid _ := hmm
      clear hmm
      go_wp2_with fail
      go_loopw [14] (fun i wx => ∃ p : Nat, p ≤ len ∧ i = .int .i64 p ∧ HeldA w (fun j => zs.getD j 0) (fun j => (enc q).getD j 0) (bodyAt k) (bits .or .u8 192 (t % 64)) b off len gc g w3.heap.size m w.heap.size q wx) (fun i _ => len - (intOf i).toNat)
      case atStart => exact ⟨0, Nat.zero_le _, rfl, H⟩
      case round =>
        clear H
        obtain ⟨p, hp, rfl, H⟩ := hrel
        by_cases hpt : p < len
        · have c1 := H.dst p hpt
          have c2 := H.cpy p hpt
          have c3 := H.got p hpt
          generalize zs.getD p 0 = zq at c1 c2 c3
          have hpt' : (p : Int) < (len : Int) := by omega
          have hpt2 : (p : Int) < (len : Int) + 1 + (m : Int) + (q : Int) := by omega
          go_wp2
          go_quiet (fail)
          go_wp2
          go_roundw
          case rel => exact ⟨p + 1, by omega, by go_num, H.drewN _⟩
          case measure => simp [intOf]; omega
        · have hpt' : ¬ (p : Int) < (len : Int) := by omega
          have c1 := H.tag
          have hpt2 : (len : Int) < (len : Int) + 1 + (m : Int) + (q : Int) := by omega
          clear hpt hp
          go_wp2_with fail
          go_loopw [16] (fun i wx => ∃ p : Nat, p ≤ m ∧ i = .int .i64 p ∧ HeldA w (fun j => zs.getD j 0) (fun j => (enc q).getD j 0) (bodyAt k) (bits .or .u8 192 (t % 64)) b off len gc g w3.heap.size m w.heap.size q wx) (fun i _ => m - (intOf i).toNat)
          case atStart => exact ⟨0, Nat.zero_le _, rfl, H⟩
          case round =>
            clear H c1
            obtain ⟨r, hr, rfl, H⟩ := hrel
            by_cases hrt : r < m
            · have c1 := H.add r hrt
              have c2 := H.wnt r hrt
              generalize (enc q).getD r 0 = zq at c1 c2
              have hrt' : (r : Int) < (m : Int) := by omega
              have hrt2 : (len : Int) + 1 + (r : Int) < (len : Int) + 1 + (m : Int) + (q : Int) := by omega
              go_wp2
              go_quiet (fail)
              go_wp2
              go_roundw
              case rel => exact ⟨r + 1, by omega, by go_num, H.drewN _⟩
              case measure => simp [intOf]; omega
            · have hrt' : ¬ (r : Int) < (m : Int) := by omega
              clear hrt hr
              go_wp2_with fail
              go_loopw [17] (fun i wx => ∃ p : Nat, p ≤ q ∧ i = .int .i64 p ∧ HeldA w (fun j => zs.getD j 0) (fun j => (enc q).getD j 0) (bodyAt k) (bits .or .u8 192 (t % 64)) b off len gc g w3.heap.size m w.heap.size q wx) (fun i _ => q - (intOf i).toNat)
              case atStart => exact ⟨0, Nat.zero_le _, rfl, H⟩
              case round =>
                clear H
                obtain ⟨s, hs, rfl, H⟩ := hrel
                by_cases hst : s < q
                · have c1 : wr.cell? ⟨g, len + 1 + m + s, none⟩ = some (.int .u8 (((s : Int) * 7 + k) % 256)) := H.bod s hst
                  have c2 : wr.cell? ⟨w.heap.size, s, none⟩ = some (.int .u8 (((s : Int) * 7 + k) % 256)) := H.bdy s hst
                  have hst' : (s : Int) < (q : Int) := by omega
                  have hst2 : (len : Int) + 1 + (m : Int) + (s : Int) < (len : Int) + 1 + (m : Int) + (q : Int) := by omega
                  go_wp2
                  go_roundw
                  case rel => exact ⟨s + 1, by omega, by go_num, H⟩
                  case measure => simp [intOf]; omega
                · have hst' : ¬ (s : Int) < (q : Int) := by omega
                  go_wp2
                  go_ret
                  exact ⟨rfl, H.bel⟩
/-- A slice of bytes that came in: nil, or an address and the numbers up to its capacity. -/
def RowOf (w : World) (a : Option Addr) (len cap : Nat) (zs : List Int) : Prop :=
  (a = none ∧ len = 0 ∧ cap = 0 ∧ zs = []) ∨ ∃ x, a = some x ∧ len ≤ cap ∧ zs.length = cap ∧ ∀ i, i < zs.length → w.cell? (x.add i) = some (.int .u8 (zs.getD i 0))

theorem RowOf.below {w wr : World} {a : Option Addr} {len cap : Nat} {zs : List Int} (h : RowOf w a len cap zs) (hb : Below w.heap.size w wr) : RowOf wr a len cap zs := by
  rcases h with h | ⟨x, h1, h2, h3, h4⟩
  · exact .inl h
  · refine .inr ⟨x, h1, h2, h3, fun i hi => ?_⟩
    rw [hb.cell (World.block_lt_of_cell? _ _ (h4 i hi))]; exact h4 i hi

theorem RowOf.len {w : World} {a : Option Addr} {len cap : Nat} {zs : List Int} (h : RowOf w a len cap zs) : len ≤ zs.length := by
  rcases h with ⟨_, rfl, _, _⟩ | ⟨x, h1, h2, h3, h4⟩ <;> omega

set_option maxRecDepth 100000 in
set_option maxHeartbeats 1000000 in
theorem walkA_zero (a : Option Addr) (len cap : Nat) (zs : List Int) (t k : Int) (L : Nat) (w : World) (h1 : len ≤ 0)
    (hc : RowOf w a len cap zs) (ht0 : 0 ≤ t) (ht1 : t ≤ 255) (hk0 : 0 ≤ k) (hk1 : k ≤ 65535) (hL0 : k * 131 % 70000 = (L : Int)) :
    Calls Yba.prog 4 #[.slice a len cap, .int .u8 t, .int .u16 k] w fun e w' => e = .returned (.bool true) ∧ Below w.heap.size w w' := by
  have hL7 : L < 70000 := by omega
  have hlz := RowOf.len hc
  have HC : Hid _ := hc
  clear hc
  have HL : Hid (k * 131 % 70000 = (L : Int)) := hL0
  clear hL0
  have hbig : ¬ (1048576 : Int) < (len : Int) := by omega
  obtain ⟨i0, hi, hz0, hz1, hz2⟩ := info_parts info5'
  go_enter Yba.func4, Yba.ntmps4
  go_wp2_with (at_make; rw [HL.out]; refine wpList_make_full _ rfl _ _ 22 rfl w.heap.size 5 i0 (.int .u8 0) 1 Yba.underlying22 hi hz0 hz1 .i64 .i64 _ _ L rfl rfl rfl rfl (by rw [hz2]; omega) (by unfold maxLen; omega) (Nat.le_refl _) ?_; intro w1 hown hgrow)
  have hB1 : Below w.heap.size w w1 := (Below.refl _ _).grown hgrow (Nat.le_refl _) (fun k h => by cases h)
  go_loopw [9] (fun i wr => ∃ q : Nat, q ≤ L ∧ i = .int .i64 q ∧ (∃ ys, wr.ownsRow w.heap.size 5 1 (.slice (some ⟨w.heap.size, 0, none⟩) L L) L ys ∧ ∀ j, j < q → ys[j]? = some (.int .u8 (bodyAt k j))) ∧ Below w.heap.size w wr) (fun i _ => L - (intOf i).toNat)
  case atStart => exact ⟨0, Nat.zero_le _, rfl, ⟨_, hown, fun j hj => absurd hj (Nat.not_lt_zero _)⟩, hB1⟩
  case round =>
    clear hown hgrow hB1
    obtain ⟨q, hq, rfl, ⟨ys, hown, hys⟩, hBr⟩ := hrel
    by_cases hlt : q < L
    · have hyl : ys.length = L := by have := hown.1; omega
      obtain ⟨u, hsk⟩ : ∃ u, wr.cell? ⟨w.heap.size, q, none⟩ = some u := ⟨ys[q]'(by omega), by rw [hown.cellAt q (by omega)]; simp [hyl, hlt]⟩
      have hfk := hown.frozenAt q
      obtain ⟨hst, hgr⟩ := hown.stored q (.int .u8 (((q : Int) * 7 + k) % 256))
      have hB2 := hBr.grown hgr (hBr.size) (fun k h => by cases h; exact Nat.le_refl _)
      have hys' : ∀ j, j < q + 1 → (ys.set q (.int .u8 (((q : Int) * 7 + k) % 256)))[j]? = some (.int .u8 (bodyAt k j)) := by
        intro j hj
        by_cases hjk : j = q
        · subst hjk; simp [hyl, hlt, bodyAt]
        · rw [List.getElem?_set_ne (by omega)]; exact hys j (by omega)
      clear hys hown hgr hyl
      go_wp2
      go_roundw
      case rel => exact ⟨q + 1, by omega, by go_num, ⟨_, hst, hys'⟩, hB2⟩
      case measure => simp [intOf]; omega
    · obtain rfl : q = L := by omega
      have hS : ∀ j, j < (bodyOf k q).length → wr.cell? ⟨w.heap.size, j, none⟩ = some (.int .u8 ((bodyOf k q).getD j 0)) := fun j hj => by
        rw [bodyOf_len] at hj
        rw [bodyOf_at k q j hj, hown.cellAt j (by omega)]; exact hys j hj
      have hF : RowOf wr a len cap zs := RowOf.below HC.out hBr
      have hBs : w.heap.size < wr.heap.size := by
        rcases hown.2 with ⟨h', _⟩ | ⟨g', cap', cur, h', _, hg, _⟩
        · simp at h'
        · simp only [Value.slice.injEq, Option.some.injEq, Addr.mk.injEq, and_true, true_and] at h'
          obtain ⟨rfl, _⟩ := h'
          exact (Array.getElem?_eq_some_iff.1 hg).1
      have HS : Hid _ := hS
      have HF : Hid _ := hF
      have hlt' : ¬ (q : Int) < (q : Int) := by omega
      clear hS hF hown hys HC
      go_wp2_with fail
      refine (copy_any a len cap zs wr (by omega) HF.out).mono ?_
      rintro e w2 ⟨ao, rfl, ow2, bl2⟩
      have hs2 := bl2.size
      have hand : bits .and .u8 t 63 = t % 64 := and_63 t ht0 (by omega)
      have hS2 : ∀ j, j < (bodyOf k q).length → w2.cell? ⟨w.heap.size, j, none⟩ = some (.int .u8 ((bodyOf k q).getD j 0)) := fun j hj => by
        rw [bl2.cell (p := ⟨w.heap.size, j, none⟩) hBs]; exact HS.out j hj
      have HS2 : Hid _ := hS2
      clear hS2
      go_wp2_with fail
      refine (append_any ao len _ (t % 64) w.heap.size q (bodyOf k q) w2 (by omega) (by omega) (by omega) (by omega) (bodyOf_len k q) (by omega) HS2.out (ownsRow_mono ow2 (Nat.zero_le _))).mono ?_
      rintro e w3 ⟨v3, rfl, bl3, ow3⟩
      obtain ⟨ao3, cap3, rfl, hc3, _⟩ := ownsRow_shape ow3
      go_wp2_with fail
      refine (model_any (q : Int) w3 (by omega) (by omega)).mono ?_
      rintro e w4 ⟨rfl, rfl⟩
      have hm := enc_len q
      obtain ⟨g, rfl, hg1, hg2, hg3⟩ := own_cells ow3 (by omega)
      have hs3 := bl3.size
      have H : HeldA w (fun j => zs.getD j 0) (fun j => (enc q).getD j 0) (bodyAt k) (bits .or .u8 192 (t % 64)) 0 0 len 0 g w3.heap.size (enc q).length w.heap.size q (w3.alloc (.cells ((enc q).map (Value.int .u8)).toArray 5)) := by
        refine ⟨fun j hj => ?_, fun j hj => ?_, fun j hj => ?_, ?_, fun j hj => ?_, fun j hj => ?_, fun j hj => ?_, fun j hj => ?_, ?_⟩
        · omega
        · omega
        · omega
        · rw [World.cell?_alloc_past _ _ _ (by omega), hg3 len (by omega)]
          exact four_2 zs len _ _ _ (by omega)
        · rw [World.cell?_alloc_past _ _ _ (by omega), hg3 (len + 1 + j) (by omega)]
          exact four_3 zs len _ _ _ j hj (by omega)
        · rw [World.cell?_alloc_past _ _ _ (by omega), hg3 (len + 1 + (enc q).length + j) (by omega)]
          rw [four_4 zs len _ _ _ j (by rw [bodyOf_len]; exact hj) (by omega), bodyOf_at k q j hj]
        · rw [World.cell?_alloc_new]
          simp [List.getD, hj]
        · rw [World.cell?_alloc_past _ _ _ (by omega), bl3.cell (p := ⟨w.heap.size, j, none⟩) (by simp; omega)]
          have := HS2.out j (by rw [bodyOf_len]; exact hj)
          rwa [bodyOf_at k q j hj] at this
        · exact ((hBr.trans (bl2.mono (by omega))).trans (bl3.mono (by omega))).alloc (by omega) _
      clear ow2 ow3 hg3 bl2 bl3 HF HS HS2 hBr
      generalize hmm : (enc q).length = m at *
      have Hm : Hid _ := hmm
      clear hmm
      go_wp2_with fail
      go_loopw [14] (fun i wx => ∃ p : Nat, p ≤ len ∧ i = .int .i64 p ∧ HeldA w (fun j => zs.getD j 0) (fun j => (enc q).getD j 0) (bodyAt k) (bits .or .u8 192 (t % 64)) 0 0 len 0 g w3.heap.size m w.heap.size q wx) (fun i _ => len - (intOf i).toNat)
      case atStart => exact ⟨0, Nat.zero_le _, rfl, H⟩
      case round =>
        clear H
        obtain ⟨p, hp, rfl, H⟩ := hrel
        by_cases hpt : p < len
        · omega
        · have hpt' : ¬ (p : Int) < (len : Int) := by omega
          have c1 := H.tag
          have hpt2 : (len : Int) < (len : Int) + 1 + (m : Int) + (q : Int) := by omega
          clear hpt hp
          go_wp2_with fail
          go_loopw [16] (fun i wx => ∃ p : Nat, p ≤ m ∧ i = .int .i64 p ∧ HeldA w (fun j => zs.getD j 0) (fun j => (enc q).getD j 0) (bodyAt k) (bits .or .u8 192 (t % 64)) 0 0 len 0 g w3.heap.size m w.heap.size q wx) (fun i _ => m - (intOf i).toNat)
          case atStart => exact ⟨0, Nat.zero_le _, rfl, H⟩
          case round =>
            clear H c1
            obtain ⟨r, hr, rfl, H⟩ := hrel
            by_cases hrt : r < m
            · have c1 := H.add r hrt
              have c2 := H.wnt r hrt
              generalize (enc q).getD r 0 = zq at c1 c2
              have hrt' : (r : Int) < (m : Int) := by omega
              have hrt2 : (len : Int) + 1 + (r : Int) < (len : Int) + 1 + (m : Int) + (q : Int) := by omega
              go_wp2
              go_quiet (fail)
              go_wp2
              go_roundw
              case rel => exact ⟨r + 1, by omega, by go_num, H.drewN _⟩
              case measure => simp [intOf]; omega
            · have hrt' : ¬ (r : Int) < (m : Int) := by omega
              clear hrt hr
              go_wp2_with fail
              go_loopw [17] (fun i wx => ∃ p : Nat, p ≤ q ∧ i = .int .i64 p ∧ HeldA w (fun j => zs.getD j 0) (fun j => (enc q).getD j 0) (bodyAt k) (bits .or .u8 192 (t % 64)) 0 0 len 0 g w3.heap.size m w.heap.size q wx) (fun i _ => q - (intOf i).toNat)
              case atStart => exact ⟨0, Nat.zero_le _, rfl, H⟩
              case round =>
                clear H
                obtain ⟨s, hs, rfl, H⟩ := hrel
                by_cases hst : s < q
                · have c1 : wr.cell? ⟨g, len + 1 + m + s, none⟩ = some (.int .u8 (((s : Int) * 7 + k) % 256)) := H.bod s hst
                  have c2 : wr.cell? ⟨w.heap.size, s, none⟩ = some (.int .u8 (((s : Int) * 7 + k) % 256)) := H.bdy s hst
                  have hst' : (s : Int) < (q : Int) := by omega
                  have hst2 : (len : Int) + 1 + (m : Int) + (s : Int) < (len : Int) + 1 + (m : Int) + (q : Int) := by omega
                  go_wp2
                  go_roundw
                  case rel => exact ⟨s + 1, by omega, by go_num, H⟩
                  case measure => simp [intOf]; omega
                · have hst' : ¬ (s : Int) < (q : Int) := by omega
                  go_wp2
                  go_ret
                  exact ⟨rfl, H.bel⟩
end Go.Proofs.Ybulkeige
