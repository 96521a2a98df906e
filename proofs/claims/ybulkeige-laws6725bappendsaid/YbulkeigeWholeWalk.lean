/-
  THE WALKS OF 'LawS6725BWhole' (function 3).
-/
import Derived.Test.YbulkeigeRows
import Derived.Test.YbulkeigeLaws
import Derived.Test.YbulkeigeEnc
import Derived.Test.YbulkeigeModel
import Derived.Test.YbulkeigeCopy
import Derived.Test.YbulkeigeLength
import Derived.WalkKit
import Derived.WalkSpells
import Derived.WalkLawsBesides
import Derived.Deep.QuietTactic
import Derived.BigQuiet
namespace Go.Proofs.Ybulkeige
open Go.RowKit
set_option linter.unusedVariables false

/-- The cells of an owned slice that is not nil. -/
theorem own_cells {w : World} {B n : Nat} {ao : Option Addr} {cap : Nat} {cs : List Value} (h : w.ownsRow B 5 1 (.slice ao n cap) n cs) (hn : 0 < n) :
    ∃ g, ao = some ⟨g, 0, none⟩ ∧ B ≤ g ∧ g < w.heap.size ∧ ∀ j, j < n → w.cell? ⟨g, j, none⟩ = cs[j]? := by
  rcases h.2 with ⟨h', h0⟩ | ⟨g, cap', cur, h', hb, hg, _⟩
  · omega
  · simp only [Value.slice.injEq, true_and] at h'
    obtain ⟨rfl, rfl⟩ := h'
    refine ⟨g, rfl, hb, (Array.getElem?_eq_some_iff.1 hg).1, fun j hj => h.cellAt j (by omega)⟩

theorem getD_take (zs : List Int) (len j : Nat) (hj : j < len) (hl : len ≤ zs.length) : ((zs.take len).map (Value.int .u8))[j]? = some (.int .u8 (zs.getD j 0)) := by
  rw [List.getElem?_map, List.getElem?_take, if_pos hj]
  simp [List.getD, show j < zs.length by omega]

theorem getD_app1 (zs es : List Int) (len j : Nat) (hj : j < len) (hl : len ≤ zs.length) : ((zs.take len).map (Value.int .u8) ++ es.map (Value.int .u8))[j]? = some (.int .u8 (zs.getD j 0)) := by
  rw [List.getElem?_append_left (by simp; omega)]
  exact getD_take zs len j hj hl

theorem getD_app2 (zs es : List Int) (len j : Nat) (hj : j < es.length) (hl : len ≤ zs.length) : ((zs.take len).map (Value.int .u8) ++ es.map (Value.int .u8))[len + j]? = some (.int .u8 (es.getD j 0)) := by
  rw [List.getElem?_append_right (by simp; omega)]
  simp [List.getD, hj, Nat.min_eq_left hl]

/-- What the law reads behind its three calls. -/
structure Held (w : World) (z e : Nat → Int) (b off len gc g h m : Nat) (wx : World) : Prop where
  dst : ∀ j, j < len → wx.cell? ⟨b, off + j, none⟩ = some (.int .u8 (z j))
  cpy : ∀ j, j < len → wx.cell? ⟨gc, j, none⟩ = some (.int .u8 (z j))
  got : ∀ j, j < len → wx.cell? ⟨g, j, none⟩ = some (.int .u8 (z j))
  add : ∀ j, j < m → wx.cell? ⟨g, len + j, none⟩ = some (.int .u8 (e j))
  wnt : ∀ j, j < m → wx.cell? ⟨h, j, none⟩ = some (.int .u8 (e j))
  bel : Below w.heap.size w wx

theorem Held.drewN {w : World} {z e : Nat → Int} {b off len gc g h m : Nat} {wx : World} (q : Held w z e b off len gc g h m wx) (n : Nat) : Held w z e b off len gc g h m (wx.drewN n) :=
  ⟨q.dst, q.cpy, q.got, q.add, q.wnt, below_drewN q.bel n⟩

set_option maxHeartbeats 400000 in
theorem walk_big (a : Option Addr) (len cap : Nat) (n : Int) (w : World) (h : 1048576 < len) :
    Calls Yba.prog 3 #[.slice a len cap, .int .i64 n] w fun e w' => e = .returned (.bool true) ∧ Below w.heap.size w w' := by
  go_enter Yba.func3, Yba.ntmps3
  go_wp2
  go_ret
  exact ⟨rfl, Below.refl _ _⟩

set_option maxHeartbeats 1000000 in
theorem walk_some (b off len cap : Nat) (zs : List Int) (n : Int) (w : World) (h1 : 1 ≤ len) (hle : len ≤ 1048576) (hlc : len ≤ cap) (hz : zs.length = cap)
    (hc : ∀ i, i < zs.length → w.cell? ((⟨b, off, none⟩ : Addr).add i) = some (.int .u8 (zs.getD i 0))) (hn0 : -9223372036854775808 ≤ n) (hn1 : n ≤ 9223372036854775807) :
    Calls Yba.prog 3 #[.slice (some ⟨b, off, none⟩) len cap, .int .i64 n] w fun e w' => e = .returned (.bool true) ∧ Below w.heap.size w w' := by
  have hbw : b < w.heap.size := World.block_lt_of_cell? _ _ (hc 0 (by omega))
  have HC : Hid _ := hc
  clear hc
  have hbig : ¬ (1048576 : Int) < (len : Int) := by omega
  go_enter Yba.func3, Yba.ntmps3
  go_wp2_with fail
  refine (copy_any _ len cap zs w hle (.inr ⟨_, rfl, hlc, hz, HC.out⟩)).mono ?_
  rintro e w1 ⟨ao, rfl, ow1, bl1⟩
  go_wp2_with fail
  refine (length_any ao len len _ n w1 hn0 hn1 (by omega) (ownsRow_mono ow1 (Nat.zero_le _))).mono ?_
  rintro e w2 ⟨v2, rfl, af2⟩
  obtain ⟨bl2, ow2⟩ := af2 w1.heap.size (Nat.le_refl _) (fun h => absurd h (Nat.lt_irrefl _))
  obtain ⟨ao2, cap2, rfl, hc2, _⟩ := ownsRow_shape ow2
  clear af2
  go_wp2_with fail
  refine (model_any n w2 hn0 hn1).mono ?_
  rintro e w3 ⟨rfl, rfl⟩
  have hm := enc_len n
  obtain ⟨gc, rfl, hgc1, hgc2, hgc3⟩ := own_cells ow1 h1
  obtain ⟨g, rfl, hg1, hg2, hg3⟩ := own_cells ow2 (by omega)
  have hs1 := bl1.size
  have hs2 := bl2.size
  have H : Held w (fun j => zs.getD j 0) (fun j => (enc n).getD j 0) b off len gc g w2.heap.size (enc n).length (w2.alloc (.cells ((enc n).map (Value.int .u8)).toArray 5)) := by
    refine ⟨fun j hj => ?_, fun j hj => ?_, fun j hj => ?_, fun j hj => ?_, fun j hj => ?_, ?_⟩
    · rw [World.cell?_alloc_past _ _ _ (by omega), bl2.cell (p := ⟨b, off + j, none⟩) (by simp; omega), bl1.cell (p := ⟨b, off + j, none⟩) (by simp; omega)]
      have := HC.out j (by omega)
      rwa [Addr.add_lit] at this
    · rw [World.cell?_alloc_past _ _ _ (by omega), bl2.cell (p := ⟨gc, j, none⟩) (by simp; omega), hgc3 j hj]
      exact getD_take zs len j hj (by omega)
    · rw [World.cell?_alloc_past _ _ _ (by omega), hg3 j (by omega)]
      exact getD_app1 zs (enc n) len j hj (by omega)
    · rw [World.cell?_alloc_past _ _ _ (by omega), hg3 (len + j) (by omega)]
      exact getD_app2 zs (enc n) len j hj (by omega)
    · rw [World.cell?_alloc_new]
      simp [List.getD, hj]
    · exact (bl1.trans (bl2.mono (by omega))).alloc (by omega) _
  clear ow1 ow2 hgc3 hg3 bl1 bl2 HC
  generalize hmm : (enc n).length = m at *
  have Hm : Hid _ := hmm
  clear hmm
  go_wp2_with fail
  go_loopw [8] (fun i wx => ∃ q : Nat, q ≤ len ∧ i = .int .i64 q ∧ Held w (fun j => zs.getD j 0) (fun j => (enc n).getD j 0) b off len gc g w2.heap.size m wx) (fun i _ => len - (intOf i).toNat)
  case atStart => exact ⟨0, Nat.zero_le _, rfl, H⟩
  case round =>
    clear H
    obtain ⟨q, hq, rfl, H⟩ := hrel
    by_cases hlt : q < len
    · have c1 := H.dst q hlt
      have c2 := H.cpy q hlt
      have c3 := H.got q hlt
      generalize zs.getD q 0 = zq at c1 c2 c3
      have hlt' : (q : Int) < (len : Int) := by omega
      have hlt2 : (q : Int) < (len : Int) + (m : Int) := by omega
      go_wp2
      go_quiet (fail)
      go_wp2
      go_roundw
      case rel => exact ⟨q + 1, by omega, by go_num, H.drewN _⟩
      case measure => simp [intOf]; omega
    · have hlt' : ¬ (q : Int) < (len : Int) := by omega
      go_wp2_with fail
      go_loopw [9] (fun i wx => ∃ q : Nat, q ≤ m ∧ i = .int .i64 q ∧ Held w (fun j => zs.getD j 0) (fun j => (enc n).getD j 0) b off len gc g w2.heap.size m wx) (fun i _ => m - (intOf i).toNat)
      case atStart => exact ⟨0, Nat.zero_le _, rfl, H⟩
      case round =>
        clear H
        obtain ⟨p, hp, rfl, H⟩ := hrel
        by_cases hpt : p < m
        · have c1 := H.add p hpt
          have c2 := H.wnt p hpt
          generalize (enc n).getD p 0 = zq at c1 c2
          have hpt' : (p : Int) < (m : Int) := by omega
          have hpt2 : (len : Int) + (p : Int) < (len : Int) + (m : Int) := by omega
          go_wp2
          go_quiet (fail)
          go_wp2
          go_roundw
          case rel => exact ⟨p + 1, by omega, by go_num, H.drewN _⟩
          case measure => simp [intOf]; omega
        · have hpt' : ¬ (p : Int) < (m : Int) := by omega
          go_wp2
          go_ret
          exact ⟨rfl, H.bel⟩
set_option maxHeartbeats 1000000 in
theorem walk_zero (a : Option Addr) (cap : Nat) (zs : List Int) (n : Int) (w : World)
    (h : (a = none ∧ 0 = 0 ∧ cap = 0 ∧ zs = []) ∨ ∃ x, a = some x ∧ 0 ≤ cap ∧ zs.length = cap ∧ ∀ i, i < zs.length → w.cell? (x.add i) = some (.int .u8 (zs.getD i 0))) (hn0 : -9223372036854775808 ≤ n) (hn1 : n ≤ 9223372036854775807) :
    Calls Yba.prog 3 #[.slice a 0 cap, .int .i64 n] w fun e w' => e = .returned (.bool true) ∧ Below w.heap.size w w' := by
  have HC := copy_any a 0 cap zs w (by omega) h
  clear h
  go_enter Yba.func3, Yba.ntmps3
  go_wp2_with fail
  refine HC.mono ?_
  rintro e w1 ⟨ao, rfl, ow1, bl1⟩
  go_wp2_with fail
  refine (length_any ao 0 0 _ n w1 hn0 hn1 (by omega) (ownsRow_mono ow1 (Nat.zero_le _))).mono ?_
  rintro e w2 ⟨v2, rfl, af2⟩
  obtain ⟨bl2, ow2⟩ := af2 w1.heap.size (Nat.le_refl _) (fun h => absurd h (Nat.lt_irrefl _))
  obtain ⟨ao2, cap2, rfl, hc2, _⟩ := ownsRow_shape ow2
  clear af2
  go_wp2_with fail
  refine (model_any n w2 hn0 hn1).mono ?_
  rintro e w3 ⟨rfl, rfl⟩
  have hm := enc_len n
  obtain ⟨g, rfl, hg1, hg2, hg3⟩ := own_cells ow2 (by omega)
  have hs1 := bl1.size
  have hs2 := bl2.size
  have H : Held w (fun j => zs.getD j 0) (fun j => (enc n).getD j 0) 0 0 0 0 g w2.heap.size (enc n).length (w2.alloc (.cells ((enc n).map (Value.int .u8)).toArray 5)) := by
    refine ⟨fun j hj => absurd hj (Nat.not_lt_zero _), fun j hj => absurd hj (Nat.not_lt_zero _), fun j hj => absurd hj (Nat.not_lt_zero _), fun j hj => ?_, fun j hj => ?_, ?_⟩
    · rw [World.cell?_alloc_past _ _ _ (by omega), hg3 (0 + j) (by omega)]
      exact getD_app2 zs (enc n) 0 j hj (by omega)
    · rw [World.cell?_alloc_new]
      simp [List.getD, hj]
    · exact (bl1.trans (bl2.mono (by omega))).alloc (by omega) _
  clear ow1 ow2 hg3 bl1 bl2 HC
  generalize hmm : (enc n).length = m at *
  have Hm : Hid _ := hmm
  clear hmm
  go_wp2_with fail
  refine wp_loop_rounds 1 ?_
  rw [rounds_succ]
  go_wp2_with fail
  go_loopw [9] (fun i wx => ∃ q : Nat, q ≤ m ∧ i = .int .i64 q ∧ Held w (fun j => zs.getD j 0) (fun j => (enc n).getD j 0) 0 0 0 0 g w2.heap.size m wx) (fun i _ => m - (intOf i).toNat)
  case atStart => exact ⟨0, Nat.zero_le _, rfl, H⟩
  case round =>
    clear H
    obtain ⟨p, hp, rfl, H⟩ := hrel
    by_cases hpt : p < m
    · have c1 := H.add p hpt
      rw [Nat.zero_add] at c1
      have c2 := H.wnt p hpt
      generalize (enc n).getD p 0 = zq at c1 c2
      have hpt' : (p : Int) < (m : Int) := by omega
      go_wp2
      go_quiet (fail)
      go_wp2
      go_roundw
      case rel => exact ⟨p + 1, by omega, by go_num, H.drewN _⟩
      case measure => simp [intOf]; omega
    · have hpt' : ¬ (p : Int) < (m : Int) := by omega
      go_wp2
      go_ret
      exact ⟨rfl, H.bel⟩

end Go.Proofs.Ybulkeige
