/-
  THE CONTRACT OF 'Append' (function 8), the slice full, the body a row of the caller's own.
-/
import Derived.Test.YbulkeigeRows
import Derived.Test.YbulkeigeLaws
import Derived.Test.YbulkeigeEnc
import Derived.Test.YbulkeigeLength
import Derived.WalkKit
import Derived.WalkSpells
import Derived.WalkLawsBesides
namespace Go.Proofs.Ybulkeige
open Go.RowKit
set_option linter.unusedVariables false

theorem own_block {w : World} {B e size n : Nat} {v : Value} {cs : List Value} (h : w.ownsRow B e size v n cs) : ∀ k, v.ownBlock = some k → B ≤ k := by
  intro k hk
  rcases h.2 with ⟨rfl, _⟩ | ⟨g, cap, cur, rfl, hb, _⟩
  · cases hk
  · cases hk; exact hb

theorem body_cells {w : World} {bb : Nat} {fs : List Int} (h : ∀ j, j < fs.length → w.cell? ⟨bb, j, none⟩ = some (.int .u8 (fs.getD j 0))) :
    ∀ j u, (fs.map (Value.int .u8))[j]? = some u → w.cell? ((⟨bb, 0, none⟩ : Addr).add j) = some u := by
  intro j u hj
  have hlt : j < (fs.map (Value.int .u8)).length := (List.getElem?_eq_some_iff.1 hj).1
  simp at hlt
  rw [Addr.add_lit, Nat.zero_add, h j hlt, ← hj]
  simp [List.getD, hlt]

set_option maxHeartbeats 400000 in
theorem append_any (ao : Option Addr) (n : Nat) (xs : List Value) (t : Int) (bb L : Nat) (fs : List Int) (w : World) (h0 : 0 ≤ t) (h : t ≤ 63) (hn : n ≤ 2000000) (hL : L ≤ 100000) (hfs : fs.length = L) (hbb : bb < w.heap.size)
    (hb : ∀ j, j < fs.length → w.cell? ⟨bb, j, none⟩ = some (.int .u8 (fs.getD j 0))) (hown : w.ownsRow 0 5 1 (.slice ao n n) n xs) :
    Calls Yba.prog 8 #[.slice ao n n, .int .u8 t, .slice (some ⟨bb, 0, none⟩) L L] w fun e w' => ∃ v', e = .returned v' ∧ Below w.heap.size w w' ∧
      w'.ownsRow w.heap.size 5 1 v' (n + 1 + (enc L).length + L) (xs ++ Value.int .u8 (bits .or .u8 192 t) :: ((enc L).map (Value.int .u8) ++ fs.map (Value.int .u8))) := by
  obtain ⟨i0, hi, hz0, hz1, hz2⟩ := info_parts info5'
  have HB : Hid _ := hb
  clear hb
  have HFS : Hid _ := hfs
  clear hfs
  have hm := enc_len L
  go_enter Yba.func8, Yba.ntmps8
  go_wp2_with (at_builtin; refine wpList_append_after _ rfl (.tmp 7) (.tmp 10) 22 rfl 5 i0 (.int .u8 0) 1 1 Yba.underlying22 hi hz0 hz1 hz2 rfl (by decide) ao n n xs rfl (hown.alloc _) ⟨w.heap.size, 0, none⟩ 1 1 [Value.int .u8 (bits .or .u8 192 t)] rfl rfl ?c1 (by simp [Value.oneCell']) (by decide) (by unfold maxLen; omega) (by omega) ?_)
  case c1 => exact news_new _ _ _ _ (by simp)
  intro v1 w1 af1
  obtain ⟨bl1, ow1⟩ := af1.of_alloc w.heap.size (Nat.le_refl _) (fun h => absurd h (Nat.lt_irrefl _))
  obtain ⟨ao1, cap1, rfl, hc1, hx1⟩ := ownsRow_shape ow1
  clear af1
  go_wp2_with fail
  refine (length_any ao1 (n + 1) cap1 _ L w1 (by omega) (by omega) (by omega) (ownsRow_mono ow1 (Nat.zero_le _))).mono ?_
  rintro e w2 ⟨v2, rfl, af2⟩
  obtain ⟨bl2, ow2⟩ := af2 w.heap.size bl1.size (fun _ => hx1)
  clear af2 ow1
  have hcb : ∀ j, j < fs.length → w2.cell? ⟨bb, j, none⟩ = some (.int .u8 (fs.getD j 0)) := fun j hj => by
    rw [bl2.cell (p := ⟨bb, j, none⟩) hbb, bl1.cell (p := ⟨bb, j, none⟩) hbb]; exact HB.out j hj
  have hsz := Nat.le_trans bl1.size bl2.size
  have hnews := body_cells hcb
  have HN : Hid _ := hnews
  clear hnews hcb
  have hB := own_block ow2
  go_wp2_with (at_builtin; refine wpList_append_own _ rfl (.tmp 16) (.tmp 17) 22 rfl w.heap.size 5 i0 (.int .u8 0) 1 1 Yba.underlying22 hi hz0 hz1 hz2 rfl (by decide) v2 _ _ rfl ow2 ⟨bb, 0, none⟩ L L (fs.map (Value.int .u8)) rfl (by rw [List.length_map, HFS.out, Nat.mul_one]) (by exact HN.out) (ints_oneCell _ _) (by unfold maxLen; omega) (by omega) (by exact hsz) ?_)
  intro v' w3 h2 h3 _
  have bl3 := ((bl1.trans bl2)).grown h3 hsz hB
  go_wp2
  go_ret
  exact ⟨v', rfl, bl3, h2⟩
end Go.Proofs.Ybulkeige
