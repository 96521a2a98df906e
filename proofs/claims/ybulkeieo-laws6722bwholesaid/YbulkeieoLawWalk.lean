/-
  THE WALKS of 'LawS6722BWhole' (function 3): one a way: too long a slice; nil; empty; one field; two fields or more.
-/
import Derived.Test.YbulkeieoQuery
import Derived.WalkKit
import Derived.WalkSpells
import Derived.WalkLawsBesides
import Derived.RegionTactic
import Derived.Deep.QuietTactic
import Derived.BigQuiet
import Derived.LaidEql
namespace Go.Proofs.Ybulkeieo
open Go.RowKit
set_option linter.unusedVariables false

set_option maxHeartbeats 400000 in
theorem walk_big (s : ByteArray) (a : Option Addr) (len cap : Nat) (w : World) (h : 1048576 < len) :
    Calls Yba.prog 3 #[.string s, .slice a len cap] w fun e w' => e = .returned (.bool true) ∧ Below w.heap.size w w' := by
  go_enter Yba.func3, Yba.ntmps3
  go_wp2
  go_ret
  exact ⟨rfl, Below.refl _ _⟩

set_option maxHeartbeats 400000 in
theorem walk_nil (s : ByteArray) (w : World) :
    Calls Yba.prog 3 #[.string s, .slice none 0 0] w fun e w' => e = .returned (.bool true) ∧ Below w.heap.size w w' := by
  have qE := fun (w : World) (a : Option Addr) (n c : Nat) => Lib.run_eql_slice_nil (P := Yba.prog) w 22 9 a n c 0 0 Yba.underlying22
  go_enter Yba.func3, Yba.ntmps3
  go_wp2_with fail
  refine (query_empty s none 0 _).mono ?_
  rintro e w1 ⟨rfl, hb⟩
  have hB : Below w.heap.size w w1 := ((Below.refl _ _).alloc (Nat.le_refl _) _).trans (hb.mono (by simp))
  go_wp2
  refine wp_loop_rounds 1 ?_
  rw [rounds_succ]
  go_wp2
  go_ret
  exact ⟨rfl, hB.alloc hB.size _⟩

set_option maxHeartbeats 400000 in
theorem walk_empty (s : ByteArray) (x : Addr) (cap : Nat) (w : World) :
    Calls Yba.prog 3 #[.string s, .slice (some x) 0 cap] w fun e w' => e = .returned (.bool true) ∧ Below w.heap.size w w' := by
  have qE := fun (w : World) (a : Option Addr) (n c : Nat) => Lib.run_eql_slice_nil (P := Yba.prog) w 22 9 a n c 0 0 Yba.underlying22
  have qN := fun (w : World) (a : Option Addr) (n c : Nat) => run_neq_slice_nil_any (P := Yba.prog) w 22 9 a n c 0 0 Yba.underlying22
  have hmk : ∀ w, (Instr.makeSlice 22 (.int .i64 0) (.int .i64 0)).run Yba.prog w = .ok (.slice (some ⟨w.heap.size, 0, none⟩) 0 0) (w.alloc (.cells #[] 9)) := fun _ => by kernel_rfl
  go_enter Yba.func3, Yba.ntmps3
  go_wp2_with fail
  refine wp_loop_rounds 1 ?_
  rw [rounds_succ]
  go_wp2_with fail
  refine (query_empty s (some x) cap _).mono ?_
  rintro e w1 ⟨rfl, hb⟩
  have hB : Below w.heap.size w w1 := (((Below.refl _ _).alloc (Nat.le_refl _) _).alloc (by simp) _).trans (hb.mono (by simp; omega))
  go_wp2
  refine wp_loop_rounds 1 ?_
  rw [rounds_succ]
  go_wp2
  go_ret
  exact ⟨rfl, hB.alloc hB.size _⟩
theorem info9 : (Yba.prog.info? 9).map (fun i => (i.zero, i.size, i.bytes)) = some (some (.string ⟨#[]⟩), 1, 16) := by kernel_rfl

/-- 'p != p': false. (The kit has the twin for '=='.) -/
theorem run_neq_ptr_same {P : Program} (w : World) {tp te : TypeId} {j : TypeInfo} (a : Addr) (hp : P.underlying tp = some (.pointer te)) (hte : P.info? te = some j) :
    (binOp .neq tp (.pointer (some a)) (.pointer (some a))).run P w = .ok (.bool false) w := by
  have h : ∀ d : Nat, (Op.equalIn (d + 1) tp (.pointer (some a)) (.pointer (some a))).run P w = .ok true w := fun d => by
    simp [Op.equalIn, run_underlying hp, sizeOf, typeInfo, hte, run_sameAddr_same]
  simp only [binOp]
  simp [Op.equal, Op.maxDepth, h 9999]

theorem query_more' (s t : ByteArray) (b off len n cap : Nat) (w : World) (hl : 0 < len) (hn1 : n < len) (hn2 : len ≤ n + 1) (hlc : len ≤ cap) (hm : cap ≤ maxLen) (hcap : ¬ cap = 1) (hc : w.cell? ⟨b, off, none⟩ = some (.string t)) :
    Calls Yba.prog 4 #[.agg #[.string s, .slice (some ⟨b, off, none⟩) len cap]] w fun e w' => e = .returned (.tuple #[.string t, .agg #[.string s, .slice (some ⟨b, off + 1, none⟩) n (cap - 1)]]) ∧ Below w.heap.size w w' := by
  obtain rfl : n = len - 1 := by omega
  exact query_more s t b off len cap w hl hlc hm hcap hc

/-- What the second half of the law reads: the saved copy's cells, the fields' cells, the rest that Query handed back. -/
structure Later (w : World) (s : ByteArray) (f : Nat → ByteArray) (b off len n cap C : Nat) (wx : World) : Prop where
  sav : ∀ j, j < len → wx.cell? ⟨w.heap.size, j, none⟩ = some (.string (f j))
  fld : ∀ j, j < len → wx.cell? ⟨b, off + j, none⟩ = some (.string (f j))
  r0 : wx.cell? ⟨C, 0, none⟩ = some (.string s)
  r1 : wx.cell? ⟨C, 1, none⟩ = some (.slice (some ⟨b, off + 1, none⟩) n (cap - 1))
  bel : Below w.heap.size w wx

theorem Later.drew {w : World} {s : ByteArray} {f : Nat → ByteArray} {b off len n cap C : Nat} {wx : World} (h : Later w s f b off len n cap C wx) : Later w s f b off len n cap C wx.drew :=
  ⟨h.sav, h.fld, h.r0, h.r1, h.bel.drew⟩

theorem Later.drewN {w : World} {s : ByteArray} {f : Nat → ByteArray} {b off len n cap C : Nat} {wx : World} (h : Later w s f b off len n cap C wx) (m : Nat) : Later w s f b off len n cap C (wx.drewN m) :=
  ⟨h.sav, h.fld, h.r0, h.r1, below_drewN h.bel m⟩

set_option maxHeartbeats 1000000 in
theorem walk_many (s : ByteArray) (b off len n cap : Nat) (f : Nat → ByteArray) (w : World) (h2 : 2 ≤ len) (hn1 : n < len) (hn2 : len ≤ n + 1) (hle : len ≤ 1048576) (hlc : len ≤ cap) (hm : cap ≤ maxLen)
    (hc : ∀ k, k < len → w.cell? ⟨b, off + k, none⟩ = some (.string (f k))) :
    Calls Yba.prog 3 #[.string s, .slice (some ⟨b, off, none⟩) len cap] w fun e w' => e = .returned (.bool true) ∧ Below w.heap.size w w' := by
  obtain ⟨i0, hi, hz0, hz1, hz2⟩ := info_parts info9
  have hbw : b < w.heap.size := World.block_lt_of_cell? _ _ (hc 0 (by omega))
  have qE := fun (w : World) (a : Option Addr) (n c : Nat) => Lib.run_eql_slice_nil (P := Yba.prog) w 22 9 a n c 0 0 Yba.underlying22
  have qN := fun (w : World) (a : Option Addr) (n c : Nat) => run_neq_slice_nil_any (P := Yba.prog) w 22 9 a n c 0 0 Yba.underlying22
  have qP := fun (w : World) (a : Addr) => run_neq_ptr_same (P := Yba.prog) w (tp := 27) a Yba.underlying27 hi
  have hbig : ¬ (1048576 : Int) < (len : Int) := by omega
  go_enter Yba.func3, Yba.ntmps3
  go_wp2_with (at_make; refine wpList_make_full _ rfl _ _ 22 rfl w.heap.size 9 i0 (.string ⟨#[]⟩) 1 Yba.underlying22 hi hz0 hz1 .i64 .i64 _ _ len rfl rfl rfl rfl (by rw [hz2]; omega) (by unfold maxLen; omega) (Nat.le_refl _) ?_; intro w1 hown hgrow)
  have hB1 : Below w.heap.size w w1 := (Below.refl _ _).grown hgrow (Nat.le_refl _) (fun k h => by cases h)
  go_loopw [6] (fun i wr => ∃ k : Nat, k ≤ len ∧ i = .int .i64 k ∧ (∃ xs, wr.ownsRow w.heap.size 9 1 (.slice (some ⟨w.heap.size, 0, none⟩) len len) len xs ∧ ∀ j, j < k → xs[j]? = some (.string (f j))) ∧ Below w.heap.size w wr) (fun i _ => len - (intOf i).toNat)
  case atStart => exact ⟨0, Nat.zero_le _, rfl, ⟨_, hown, fun j hj => absurd hj (Nat.not_lt_zero _)⟩, hB1⟩
  case round =>
    clear hown hgrow hB1
    obtain ⟨k, hk, rfl, ⟨xs, hown, hxs⟩, hBr⟩ := hrel
    by_cases hlt : k < len
    · have hck : wr.cell? ⟨b, off + k, none⟩ = some (.string (f k)) := (hBr.cell (by exact hbw)).trans (hc k hlt)
      have hxl : xs.length = len := by have := hown.1; omega
      obtain ⟨u, hsk⟩ : ∃ u, wr.cell? ⟨w.heap.size, k, none⟩ = some u := ⟨xs[k]'(by omega), by rw [hown.cellAt k (by omega)]; simp [hxl, hlt]⟩
      have hfk := hown.frozenAt k
      obtain ⟨hst, hgr⟩ := hown.stored k (.string (f k))
      have hB2 := hBr.grown hgr (hBr.size) (fun k h => by cases h; exact Nat.le_refl _)
      have hxs' : ∀ j, j < k + 1 → (xs.set k (.string (f k)))[j]? = some (.string (f j)) := by
        intro j hj
        by_cases hjk : j = k
        · subst hjk; simp [hxl, hlt]
        · rw [List.getElem?_set_ne (by omega)]; exact hxs j (by omega)
      clear hxs hown hgr hxl
      go_wp2
      go_roundw
      case rel => exact ⟨k + 1, by omega, by go_num, ⟨_, hst, hxs'⟩, hB2⟩
      case measure => simp [intOf]; omega
    · obtain rfl : k = len := by omega
      have hS : ∀ j, j < k → wr.cell? ⟨w.heap.size, j, none⟩ = some (.string (f j)) := fun j hj => by rw [hown.cellAt j (by omega)]; exact hxs j hj
      have hF : ∀ j, j < k → wr.cell? ⟨b, off + j, none⟩ = some (.string (f j)) := fun j hj => (hBr.cell (by exact hbw)).trans (hc j hj)
      clear hown hxs
      have hBs : w.heap.size < wr.heap.size := World.block_lt_of_cell? _ _ (hS 0 (by omega))
      have hbr : b < wr.heap.size := by omega
      have hF0 : wr.cell? ⟨b, off, none⟩ = some (.string (f 0)) := hF 0 (by omega)
      go_wp2_with fail
      refine (query_more' s (f 0) b off k n cap _ (by omega) hn1 hn2 hlc hm (by omega) (by rw [World.cell?_alloc_past _ _ _ hbr]; exact hF0)).mono ?_
      rintro e w2 ⟨rfl, hb2⟩
      have hx : Below wr.heap.size wr w2 := ((Below.refl _ _).alloc (Nat.le_refl _) _).trans (hb2.mono (by simp))
      have hz2 := hx.size
      have hB2 : Below w.heap.size w w2 := hBr.trans (hx.mono (by omega))
      have hS2 : ∀ j, j < k → w2.cell? ⟨w.heap.size, j, none⟩ = some (.string (f j)) := fun j hj => (hx.cell (by exact hBs)).trans (hS j hj)
      have hF2 : ∀ j, j < k → w2.cell? ⟨b, off + j, none⟩ = some (.string (f j)) := fun j hj => (hx.cell (by exact hbr)).trans (hF j hj)
      have hs2 : w.heap.size < w2.heap.size := by omega
      have hb2' : b < w2.heap.size := by omega
      clear hS hF hF0 hx hz2 hb2 hBr hbr hBs hc
      have e0 : ((k : Int) == 0) = false := by simp; omega
      have L2 : Later w s f b off k n cap w2.heap.size (w2.alloc (.cells #[.string s, .slice (some ⟨b, off + 1, none⟩) n (cap - 1)] 24)) :=
        ⟨fun j hj => (World.cell?_alloc_past _ _ _ hs2).trans (hS2 j hj), fun j hj => (World.cell?_alloc_past _ _ _ hb2').trans (hF2 j hj), by simp, by simp, hB2.alloc hB2.size _⟩
      clear hS2 hF2 hB2
      go_wp2_with fail
      go_loopw [10] (fun i wx => ∃ q : Nat, q ≤ k ∧ i = .int .i64 q ∧ Later w s f b off k n cap w2.heap.size wx) (fun i _ => k - (intOf i).toNat)
      case atStart => exact ⟨0, Nat.zero_le _, rfl, L2⟩
      case round =>
        clear L2
        obtain ⟨q, hq, rfl, L⟩ := hrel
        by_cases hlt : q < k
        · have g1 := L.sav q hlt
          have g2 := L.fld q hlt
          go_wp2
          go_quiet (fail)
          go_wp2
          go_roundw
          case rel => exact ⟨q + 1, by omega, by go_num, L.drewN _⟩
          case measure => simp [intOf]; omega
        · obtain rfl : q = k := by omega
          have r0 := L.r0
          have r1 := L.r1
          have g0 := L.sav 0 (by omega)
          have eq : ((n : Int) != (q : Int) - 1) = false := by rw [bne_eq_false_iff_eq]; omega
          go_wp2_with fail
          go_loopw [11] (fun i wx => ∃ p : Nat, p ≤ n ∧ i = .int .i64 p ∧ Later w s f b off q n cap w2.heap.size wx) (fun i _ => n - (intOf i).toNat)
          case atStart => exact ⟨0, Nat.zero_le _, rfl, L⟩
          case round =>
            clear L r0 r1 g0 eq
            obtain ⟨p, hp, rfl, L⟩ := hrel
            have r1 := L.r1
            by_cases hlt : p < n
            · have g1 := L.sav (p + 1) (by omega)
              have g2 : wr.cell? ⟨b, off + 1 + p, none⟩ = some (.string (f (p + 1))) := by rw [show off + 1 + p = off + (p + 1) from by omega]; exact L.fld (p + 1) (by omega)
              have hlt' : (p : Int) < (n : Int) := by omega
              have hlt2 : (p : Int) + 1 < (q : Int) := by omega
              go_wp2
              go_quiet (fail)
              go_wp2
              go_roundw
              case rel => exact ⟨p + 1, by omega, by go_num, L.drewN _⟩
              case measure => simp [intOf]; omega
            · have hd : ¬ (p : Int) < (n : Int) := by omega
              have h0 : decide ((0 : Int) < (n : Int)) = true := decide_eq_true (by omega)
              have h0x : (0 : Int) < (n : Int) := by omega
              have h0z : 0 < n := by omega
              have h0y : decide (0 < n) = true := decide_eq_true (by omega)
              have h1 : (1 : Int) < (q : Int) := by omega
              go_wp2
              go_quiet (fail)
              go_wp2
              go_ret
              exact ⟨rfl, (L.drewN _).bel⟩
/-- One field: the two ways of Query under one head: the rest's address is whatever it is. -/
theorem query_single (s t : ByteArray) (b off cap : Nat) (w : World) (hlc : 1 ≤ cap) (hm : cap ≤ maxLen) (hc : w.cell? ⟨b, off, none⟩ = some (.string t)) :
    Calls Yba.prog 4 #[.agg #[.string s, .slice (some ⟨b, off, none⟩) 1 cap]] w fun e w' => ∃ x : Addr, e = .returned (.tuple #[.string t, .agg #[.string s, .slice (some x) 0 (cap - 1)]]) ∧ Below w.heap.size w w' := by
  by_cases h : cap = 1
  · subst h
    exact (query_one s t b off w hc).mono fun e w' h => ⟨_, h⟩
  · exact (query_more s t b off 1 cap w (by omega) hlc hm h hc).mono fun e w' h => ⟨_, h⟩

set_option maxHeartbeats 1000000 in
theorem walk_one (s t : ByteArray) (b off cap : Nat) (w : World) (hlc : 1 ≤ cap) (hm : cap ≤ maxLen)
    (hc : w.cell? ⟨b, off, none⟩ = some (.string t)) :
    Calls Yba.prog 3 #[.string s, .slice (some ⟨b, off, none⟩) 1 cap] w fun e w' => e = .returned (.bool true) ∧ Below w.heap.size w w' := by
  have hbw : b < w.heap.size := World.block_lt_of_cell? _ _ hc
  have hbw1 : b < w.heap.size + 1 := by omega
  have qE := fun (w : World) (a : Option Addr) (n c : Nat) => Lib.run_eql_slice_nil (P := Yba.prog) w 22 9 a n c 0 0 Yba.underlying22
  have qN := fun (w : World) (a : Option Addr) (n c : Nat) => run_neq_slice_nil_any (P := Yba.prog) w 22 9 a n c 0 0 Yba.underlying22
  have hmk : ∀ w, (Instr.makeSlice 22 (.int .i64 1) (.int .i64 1)).run Yba.prog w = .ok (.slice (some ⟨w.heap.size, 0, none⟩) 1 1) (w.alloc (.cells #[.string ⟨#[]⟩] 9)) := fun _ => by kernel_rfl
  go_enter Yba.func3, Yba.ntmps3
  go_wp2_with fail
  refine wp_loop_rounds 2 ?_
  rw [rounds_succ]
  go_wp2_with fail
  rw [rounds_succ]
  go_wp2_with fail
  refine (query_single s t b off cap _ hlc hm (by rw [World.cell?_alloc_past _ _ _ (by simp; omega), World.cell?_alloc_past _ _ _ hbw]; exact hc)).mono ?_
  rintro e w2 ⟨x, rfl, hb2⟩
  have hB2 : Below w.heap.size w w2 := (((Below.refl _ _).alloc (Nat.le_refl _) _).alloc (by simp) _).trans (hb2.mono (by simp; omega))
  have hz2 := hb2.size
  simp at hz2
  have hs2 : w.heap.size < w2.heap.size := by omega
  have hbs2 : b < w2.heap.size := by omega
  have hS2 : w2.cell? ⟨w.heap.size, 0, none⟩ = some (.string t) := by
    rw [hb2.cell (p := ⟨w.heap.size, 0, none⟩) (by simp; omega), World.cell?_alloc_past _ _ _ (by simp)]
    simp
  have hF2 : w2.cell? ⟨b, off, none⟩ = some (.string t) := (hB2.cell (by exact hbw)).trans hc
  clear hb2 hz2 hc
  go_wp2_with fail
  refine wp_loop_rounds 2 ?_
  rw [rounds_succ]
  go_wp2
  go_quiet (fail)
  go_wp2
  rw [rounds_succ]
  go_wp2
  refine wp_loop_rounds 1 ?_
  rw [rounds_succ]
  go_wp2
  go_quiet (fail)
  go_wp2
  go_ret
  exact ⟨rfl, below_drewN (below_drewN (hB2.alloc hB2.size _) _) _⟩
end Go.Proofs.Ybulkeieo
