/-
  'slices.Clone' at []uint32 (9), 'AppendUint32' (27), 'appendGroupKey' (15).
-/
import Derived.Test.YbulkeifqGreatRows
import Derived.Test.YbulkeifqGreatCh
import Derived.Test.YbulkeifqGreatIntern
import Derived.WalkKit
import Derived.WalkSpells
import Derived.WalkLawsBesides
import Derived.Maps.AppendAt
namespace Go.Proofs.YbulkeifqGreat
open Go.RowKit
set_option linter.unusedVariables false

theorem info35 : (Ybaz.prog.info? 35).map (fun i => (i.zero, i.size, i.bytes)) = some (some (.int .u32 0), 1, 4) := by kernel_rfl
theorem info5 : (Ybaz.prog.info? 5).map (fun i => (i.zero, i.size, i.bytes)) = some (some (.int .u8 0), 1, 1) := by kernel_rfl

set_option maxHeartbeats 400000 in
/-- A clone of two cells. -/
theorem clone_two {w : World} {b c : Nat} {x0 x1 : Value} (h0 : w.cell? ⟨b, 0, none⟩ = some x0) (h1 : w.cell? ⟨b, 1, none⟩ = some x1) (o0 : x0.oneCell' = true) (o1 : x1.oneCell' = true) :
    Calls Ybaz.prog 9 #[.slice (some ⟨b, 0, none⟩) 2 c] w fun e w' => ∃ g cap, e = .returned (.slice (some ⟨g, 0, none⟩) 2 cap) ∧ w'.ownsRow w.heap.size 35 1 (.slice (some ⟨g, 0, none⟩) 2 cap) 2 [x0, x1] ∧ Below w.heap.size w w' := by
  obtain ⟨i0, hi, hz0, hz1, hz2⟩ := info_parts info35
  have qE := fun (w : World) (a : Option Addr) (n c : Nat) => Lib.run_eql_slice_nil (P := Ybaz.prog) w 26 35 a n c 0 0 Ybaz.underlying26
  have hbs : b < w.heap.size := World.block_lt_of_cell? _ _ h0
  have hown : (w.alloc (.cells #[] 35)).ownsRow w.heap.size 35 1 (.slice (some ⟨w.heap.size, 0, none⟩) 0 0) 0 [] := World.ownsRow_lit w #[] 0 (Nat.le_refl _) (by unfold maxLen; omega) rfl
  go_enter Ybaz.func9, Ybaz.ntmps9
  go_wp2_with (at_builtin; refine wpList_append_own_at _ rfl _ _ 26 rfl w.heap.size 35 i0 (.int .u32 0) 1 4 Ybaz.underlying26 hi hz0 hz1 hz2 rfl (by decide) _ 0 [] rfl hown ⟨b, 0, none⟩ 2 c [x0, x1] rfl rfl ?c1 ?c2 (by unfold maxLen; omega) (by omega) (by simp) ?_)
  case c1 =>
    intro j u hj
    match j, hj with
    | 0, hj => simp at hj; subst hj; rw [Addr.add_lit, World.cell?_alloc_past _ _ _ hbs]; exact h0
    | 1, hj => simp at hj; subst hj; rw [Addr.add_lit, World.cell?_alloc_past _ _ _ hbs]; exact h1
  case c2 => intro u hu; simp at hu; rcases hu with rfl | rfl <;> assumption
  intro v' w1 own1 grow1 _ hat
  rcases own1.2 with ⟨_, h2⟩ | ⟨g, cap, cur, rfl, hg, _⟩
  · omega
  have hB : Below w.heap.size w w1 := ((Below.refl _ _).alloc (Nat.le_refl _) _).grown grow1 (by simp) (fun k hk => by cases hk; exact Nat.le_refl _)
  go_wp2
  go_ret
  exact ⟨g, cap, rfl, own1, hB⟩

/-- The four bytes of a uint32, the lowest first. -/
def le32 (v : Int) : List Int := [v % 256, v / 256 % 256, v / 65536 % 256, v / 16777216]

/-- Rows of bytes may have turned. -/
def OnBytes (k : Nat) (o : Obj) : Prop := ∃ cs fr, o = .cells cs 5 fr

theorem on_own {w : World} {B : Nat} {e : TypeId} {size : Nat} {v : Value} {n : Nat} {xs : List Value} (h : w.ownsRow B e size v n xs) : ∀ k, v.ownBlock = some k → B ≤ k ∧ ∀ o, w.heap[k]? = some o → ∃ cs fr, o = .cells cs e fr := by
  intro k hk
  rcases h.2 with ⟨rfl, _⟩ | ⟨g, cap, cur, rfl, hb, hg, _⟩
  · cases hk
  · cases hk
    exact ⟨hb, fun o ho => by rw [hg] at ho; cases ho; exact ⟨_, _, rfl⟩⟩

set_option maxHeartbeats 400000 in
theorem appendLE (ao : Option Addr) (n cap : Nat) (xs : List Value) (v : Nat) (B : Nat) (w : World) (hv : v < 4294967296) (hn : n ≤ 1000) (hown : w.ownsRow B 5 1 (.slice ao n cap) n xs) (hB : B ≤ w.heap.size) :
    Calls Ybaz.prog 27 #[.agg #[], .slice ao n cap, .int .u32 v] w fun e w' => ∃ ao' cap', e = .returned (.slice ao' (n + 4) cap') ∧ w'.ownsRow B 5 1 (.slice ao' (n + 4) cap') (n + 4) (xs ++ (le32 v).map (Value.int .u8)) ∧ Ch B OnBytes w w' := by
  obtain ⟨i0, hi, hz0, hz1, hz2⟩ := info_parts info5
  go_enter Ybaz.func27, Ybaz.ntmps27
  go_wp2_with (at_builtin; refine wpList_append_own_at _ rfl _ _ 79 rfl B 5 i0 (.int .u8 0) 1 1 Ybaz.underlying79 hi hz0 hz1 hz2 rfl (by decide) _ n xs rfl ((hown.alloc _).alloc _) ⟨w.heap.size + 1, 0, none⟩ 4 4 ((le32 v).map (Value.int .u8)) rfl rfl ?c1 (ints_oneCell _ _) (by unfold maxLen; omega) (by omega) (by simp; omega) ?_)
  case c1 => exact World.news_of_block (show ((w.alloc (.cells #[] 112)).alloc _).heap[w.heap.size + 1]? = _ from by have := alloc_new (w.alloc (.cells #[] 112)) (.cells #[Value.int .u8 ((v : Int) % 256), .int .u8 ((v : Int) / 256 % 256), .int .u8 ((v : Int) / 65536 % 256), .int .u8 ((v : Int) / 16777216)] 5); simpa using this)
  intro v' w1 own1 grow1 _ hat
  obtain ⟨ao', cap', rfl, _, _⟩ := ownsRow_shape own1
  have hC : Ch B OnBytes w w1 := (((Ch.refl _ _ _).alloc _).alloc _).trans (Ch.of_grown grow1 (on_own ((hown.alloc _).alloc _)))
  go_wp2
  go_ret
  exact ⟨ao', cap', rfl, own1, hC⟩

/-- An owned slice, cut to nothing. -/
theorem ownsRow_cut {w : World} {B : Nat} {e : TypeId} {ao : Option Addr} {n cap : Nat} {xs : List Value} (h : w.ownsRow B e 1 (.slice ao n cap) n xs) : w.ownsRow B e 1 (.slice ao 0 cap) 0 [] := by
  rcases h.2 with ⟨h', h0⟩ | ⟨g, cap', cur, h', hb, hg, _, hm, hs, _⟩
  · simp only [Value.slice.injEq] at h'
    obtain ⟨rfl, rfl, rfl⟩ := h'
    exact ⟨rfl, .inl ⟨rfl, rfl⟩⟩
  · simp only [Value.slice.injEq] at h'
    obtain ⟨rfl, _, rfl⟩ := h'
    exact ⟨rfl, .inr ⟨g, cap, cur, rfl, hb, hg, Nat.zero_le _, hm, hs, by simp⟩⟩

set_option maxHeartbeats 1000000 in
theorem groupKey_any (ao : Option Addr) (cap : Nat) (k0 k1 : Nat) (B KB GB : Nat) (op rg : Int) (w : World) (hk0 : k0 < 4294967296) (hk1 : k1 < 4294967296) (hown : w.ownsRow B 5 1 (.slice ao 0 cap) 0 []) (hB : B ≤ w.heap.size)
    (hKB : w.heap[KB]? = some (.cells #[.int .u32 k0, .int .u32 k1] 35 (0, 0))) (hGB : w.heap[GB]? = some (.cells #[.int .i64 1, .int .u8 op, .int .i64 rg] 59 (0, 0))) :
    Calls Ybaz.prog 15 #[.slice ao 0 cap, .slice (some ⟨KB, 0, none⟩) 2 2, .slice (some ⟨GB, 0, none⟩) 1 1] w fun e w' => ∃ ao' cap', e = .returned (.slice ao' 8 cap') ∧ w'.ownsRow B 5 1 (.slice ao' 8 cap') 8 ((le32 k0).map (Value.int .u8) ++ (le32 0).map (Value.int .u8)) ∧ Ch B OnBytes w w' := by
  have p0 : w.cell? ⟨KB, 0, none⟩ = some (.int .u32 k0) := by rw [cell_blk hKB]; rfl
  have p1 : w.cell? ⟨KB, 1, none⟩ = some (.int .u32 k1) := by rw [cell_blk hKB]; rfl
  have g0 : w.cell? ⟨GB, 0, none⟩ = some (.int .i64 1) := by rw [cell_blk hGB]; rfl
  have g1 : w.cell? ⟨GB, 1, none⟩ = some (.int .u8 op) := by rw [cell_blk hGB]; rfl
  have g2 : w.cell? ⟨GB, 2, none⟩ = some (.int .i64 rg) := by rw [cell_blk hGB]; rfl
  have lK := lt_blk hKB
  have lG := lt_blk hGB
  have HKB := hid' hKB
  have HGB := hid' hGB
  clear hKB hGB
  go_enter Ybaz.func15, Ybaz.ntmps15
  go_wp2
  refine wp_loop_rounds 3 ?_
  rw [rounds_succ]
  go_wp2
  refine wp_loop_rounds 2 ?_
  rw [rounds_succ]
  go_wp2
  rw [rounds_succ]
  go_wp2_with fail
  refine (appendLE ao 0 cap [] k0 B _ hk0 (by omega) (hown.alloc _) (by simp; omega)).mono ?_
  rintro e w1 ⟨ao1, cap1, rfl, own1, c1⟩
  simp only [List.nil_append, Nat.zero_add] at own1
  have bK : w1.heap[KB]? = _ := c1.keep (alloc_old _ HKB.out) (by rintro ⟨_, _, e⟩; cases e)
  have bG : w1.heap[GB]? = _ := c1.keep (alloc_old _ HGB.out) (by rintro ⟨_, _, e⟩; cases e)
  have s1 := c1.size
  simp at s1
  have C1 : Ch B OnBytes w w1 := ((Ch.refl _ _ _).alloc _).trans c1
  have p1 : w1.cell? ⟨KB, 1, none⟩ = some (.int .u32 k1) := by rw [cell_blk bK]; rfl
  have g0 : w1.cell? ⟨GB, 0, none⟩ = some (.int .i64 1) := by rw [cell_blk bG]; rfl
  have g1 : w1.cell? ⟨GB, 1, none⟩ = some (.int .u8 op) := by rw [cell_blk bG]; rfl
  have g2 : w1.cell? ⟨GB, 2, none⟩ = some (.int .i64 rg) := by rw [cell_blk bG]; rfl
  have lK := lt_blk bK
  have lG := lt_blk bG
  have HC1 := hid' C1
  clear c1 C1 bK bG HKB HGB hown
  go_wp2_with fail
  rw [rounds_succ]
  go_wp2_with fail
  refine wp_loop_rounds 2 ?_
  rw [rounds_succ]
  go_wp2_with fail
  rw [rounds_succ]
  go_wp2_with fail
  refine (appendLE ao1 4 cap1 _ 0 B _ (by omega) (by omega) (own1.alloc _) (by simp; omega)).mono ?_
  rintro e w2 ⟨ao2, cap2, rfl, own2, c2⟩
  have C2 : Ch B OnBytes w w2 := (HC1.out.alloc _).trans c2
  clear c2 own1
  go_wp2_with fail
  rw [rounds_succ]
  go_wp2
  go_ret
  exact ⟨ao2, cap2, rfl, own2, C2⟩
end Go.Proofs.YbulkeifqGreat
