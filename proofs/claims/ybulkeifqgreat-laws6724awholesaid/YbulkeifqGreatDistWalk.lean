/-
  'zzs6724adistinct' (11), 'slices.Clone' at int64 (19), 'slices.Sort' at int64 (20).
-/
import Derived.Test.YbulkeifqGreatDist
import Derived.Test.YbulkeifqGreatKey
import Derived.WalkKit
import Derived.WalkSpells
import Derived.WalkLawsBesides
import Derived.Deep.QuietTactic
import Derived.BigQuiet
import Derived.Shelf.SortM.Plain
import Derived.Shelf.SortM.SortNone
import Derived.Shelf.SlGeneric
import Derived.Ground.SlgmProg
import Derived.Sort.OwnSortedInts
import Derived.LoopTactic
namespace Go.Proofs.YbulkeifqGreat
open Go.RowKit
set_option linter.unusedVariables false

theorem info2 : (Ybaz.prog.info? 2).map (fun i => (i.zero, i.size, i.bytes)) = some (some (.int .i64 0), 1, 8) := by kernel_rfl

set_option maxHeartbeats 400000 in
theorem clone64 {w : World} {b c : Nat} {zs : List Int} (hz : ∀ j, j < zs.length → w.cell? ⟨b, j, none⟩ = some (.int .i64 (zs.getD j 0))) (hl : 0 < zs.length) (hlen : zs.length ≤ 2000000) :
    Calls Ybaz.prog 19 #[.slice (some ⟨b, 0, none⟩) zs.length c] w fun e w' => ∃ g cap, e = .returned (.slice (some ⟨g, 0, none⟩) zs.length cap) ∧ w'.ownsRow w.heap.size 2 1 (.slice (some ⟨g, 0, none⟩) zs.length cap) zs.length (zs.map (Value.int .i64)) ∧ Below w.heap.size w w' := by
  obtain ⟨i0, hi, hz0, hz1, hz2⟩ := info_parts info2
  have qE := fun (w : World) (a : Option Addr) (n c : Nat) => Lib.run_eql_slice_nil (P := Ybaz.prog) w 82 2 a n c 0 0 Ybaz.underlying82
  have hbs : b < w.heap.size := World.block_lt_of_cell? _ _ (hz 0 hl)
  have hown : (w.alloc (.cells #[] 2)).ownsRow w.heap.size 2 1 (.slice (some ⟨w.heap.size, 0, none⟩) 0 0) 0 [] := World.ownsRow_lit w #[] 0 (Nat.le_refl _) (by unfold maxLen; omega) rfl
  have Hz := hid' hz
  clear hz
  go_enter Ybaz.func19, Ybaz.ntmps19
  go_wp2_with (at_builtin; refine wpList_append_own_at _ rfl _ _ 82 rfl w.heap.size 2 i0 (.int .i64 0) 1 8 Ybaz.underlying82 hi hz0 hz1 hz2 rfl (by decide) _ 0 [] rfl hown ⟨b, 0, none⟩ zs.length c (zs.map (Value.int .i64)) rfl (by simp) ?c1 (ints_oneCell _ _) (by unfold maxLen; omega) (by omega) (by simp) ?_)
  case c1 =>
    intro j u hj
    have hjl : j < zs.length := by
      have := (List.getElem?_eq_some_iff.1 hj).1
      simpa using this
    rw [List.getElem?_map, List.getElem?_eq_getElem hjl] at hj
    simp at hj
    subst hj
    have := Hz.out j hjl
    rw [Addr.add_lit, World.cell?_alloc_past _ _ _ hbs, Nat.zero_add, this, List.getD_eq_getElem?_getD, List.getElem?_eq_getElem hjl]
    rfl
  intro v' w1 own1 grow1 _ hat
  rcases own1.2 with ⟨_, h2⟩ | ⟨g, cap, cur, rfl, hg, _⟩
  · omega
  have hB : Below w.heap.size w w1 := ((Below.refl _ _).alloc (Nat.le_refl _) _).grown grow1 (by simp) (fun k hk => by cases hk; exact Nat.le_refl _)
  have HE := hid' (And.intro own1 hB)
  clear own1 grow1 hat hB hg
  go_wp2
  go_ret
  refine ⟨g, cap, by simp, ?_, HE.out.2⟩
  simpa using HE.out.1

shelf_lay_g SlLaysM.n5 Slgm 5 at Ybaz 20 as Ybaz.laySort


def srt (zs : List Int) : List Int := zs.mergeSort fun x y => decide (x ≤ y)

theorem srt_perm (zs : List Int) : (srt zs).Perm zs := List.mergeSort_perm _ _
theorem srt_len (zs : List Int) : (srt zs).length = zs.length := (srt_perm zs).length_eq
theorem srt_sorted (zs : List Int) : (srt zs).Pairwise (· ≤ ·) := by
  have := List.pairwise_mergeSort (le := fun x y : Int => decide (x ≤ y)) (fun a b c h1 h2 => by simp at h1 h2 ⊢; omega) (fun a b => by simp; omega) zs
  exact this.imp (fun h => by simpa using h)

theorem cntTo_le (c : List Int) : ∀ i, cntTo c i ≤ i
  | 0 => Nat.le_refl _
  | i + 1 => by
    have := cntTo_le c i
    simp only [cntTo]
    split <;> omega

theorem own_row' {w : World} {b : Nat} {e : TypeId} {size : Nat} {g n cap : Nat} {xs : List Value} (h : w.ownsRow b e size (.slice (some ⟨g, 0, none⟩) n cap) n xs) : g < w.heap.size ∧ b ≤ g := by
  rcases h.2 with ⟨h', _⟩ | ⟨g', cap', cur, h', hb, hg, _⟩
  · simp at h'
  · simp only [Value.slice.injEq, Option.some.injEq, Addr.mk.injEq, and_true, true_and] at h'
    obtain ⟨rfl, _⟩ := h'
    exact ⟨lt_blk hg, hb⟩

theorem sort64 {w : World} {B g cap : Nat} {zs : List Int} (own : w.ownsRow B 2 1 (.slice (some ⟨g, 0, none⟩) zs.length cap) zs.length (zs.map (Value.int .i64))) (hl : 0 < zs.length) (hlen : zs.length ≤ 2000000) :
    Calls Ybaz.prog 20 #[.slice (some ⟨g, 0, none⟩) zs.length cap] w fun e w' => e = .returned (.tuple #[]) ∧ w'.ownsRow B 2 1 (.slice (some ⟨g, 0, none⟩) zs.length cap) zs.length ((srt zs).map (Value.int .i64)) ∧ w.grownBy w' (some g) := by
  rcases own.2 with ⟨_, h0⟩ | ⟨g', cap', cur, he, hb, hg, h1, h2, h3, h4⟩
  · omega
  · simp only [Value.slice.injEq, Option.some.injEq, Addr.mk.injEq, and_true, true_and] at he
    obtain ⟨rfl, rfl⟩ := he
    have hH : Sort.Holds (Value.int .i64) w g 0 zs.toArray := holds_of_blockI hg (by simpa using h4)
    refine (AnyM.slices_Sort_int Ybaz.laySort g 0 cap zs w hH (lt_blk hg) (by omega)).mono ?_
    rintro e w' ⟨rfl, n, os, rfl⟩
    exact ⟨rfl, ownsRow_sortedI (ss := zs) (srt_len zs) hb hg h1 h2 h3, grownBy_sortedI _⟩

set_option maxHeartbeats 1000000 in
theorem distinct_any {w : World} {b c : Nat} {zs : List Int} (hz : ∀ j, j < zs.length → w.cell? ⟨b, j, none⟩ = some (.int .i64 (zs.getD j 0))) (hl : 0 < zs.length) (hlen : zs.length ≤ 2000000) :
    Calls Ybaz.prog 11 #[.slice (some ⟨b, 0, none⟩) zs.length c] w fun e w' => e = .returned (.int .i64 (distI zs : Nat)) ∧ Below w.heap.size w w' := by
  have Hz := hid' hz
  clear hz
  go_enter Ybaz.func11, Ybaz.ntmps11
  go_wp2_with (first | (go_at_call 19; refine (clone64 Hz.out hl hlen).mono ?_; rintro e w1 ⟨g, cap, rfl, own1, bel1⟩) | (go_at_call 20; refine (sort64 own1 hl hlen).mono ?_; rintro e w2 ⟨rfl, own2, gr2⟩))
  have hbel : Below w.heap.size w w2 := bel1.grown gr2 (by simpa using bel1.size) (fun k hk => by cases hk; exact (own_row' own1).2)
  have hcell : ∀ j, j < zs.length → w2.cell? ⟨g, j, none⟩ = some (.int .i64 ((srt zs).getD j 0)) := fun j hj => by
    rw [own2.cellAt j (by omega)]
    have : j < (srt zs).length := by rw [srt_len]; exact hj
    rw [List.getElem?_map, List.getD_eq_getElem?_getD, List.getElem?_eq_getElem this]
    rfl
  have HB := hid' (And.intro hbel hcell)
  clear hbel hcell own1 bel1 own2 gr2
  go_loopw [4, 5] (fun cn i wr => ∃ q : Nat, q ≤ zs.length ∧ i = .int .i64 q ∧ cn = .int .i64 (cntTo (srt zs) q : Nat) ∧ Hid (Below w.heap.size w wr ∧ ∀ j, j < zs.length → wr.cell? ⟨g, j, none⟩ = some (.int .i64 ((srt zs).getD j 0)))) (fun _ i _ => zs.length - (intOf i).toNat)
  case atStart => exact ⟨0, Nat.zero_le _, rfl, rfl, HB⟩
  case round =>
    obtain ⟨q, hq, rfl, rfl, HR⟩ := hrel
    clear HB Hz
    by_cases hlt : q < zs.length
    · have hlt' : (q : Int) < (zs.length : Int) := by omega
      have hcl : cntTo (srt zs) q ≤ q := cntTo_le _ _
      have x1 := HR.out.2 q hlt
      have hnext : cntTo (srt zs) (q + 1) = cntTo (srt zs) q + (if q = 0 ∨ (srt zs).getD q 0 ≠ (srt zs).getD (q - 1) 0 then 1 else 0) := rfl
      have HN := hid' hnext
      clear hnext
      generalize hcq : cntTo (srt zs) q = cq at *
      have HQ := hid' hcq
      clear hcq
      by_cases h0 : q = 0
      · subst h0
        go_wp2
        go_quiet (fail)
        go_wp2
        have e1 : cntTo (srt zs) 1 = cq + 1 := by simpa using HN.out
        refine ⟨⟨1, by omega, rfl, by rw [e1]; rfl, hid' ⟨below_drewN HR.out.1 _, HR.out.2⟩⟩, ?_⟩
        simp [intOf]
        omega
      · obtain ⟨p, rfl⟩ : ∃ p, q = p + 1 := ⟨q - 1, by omega⟩
        have x0 : wr.cell? ⟨g, p, none⟩ = some (.int .i64 ((srt zs).getD p 0)) := HR.out.2 p (by omega)
        have hp1 : (p : Int) < (zs.length : Int) := by omega
        have hp2 : (p : Int) + 1 < (zs.length : Int) := by omega
        have hg0 : (((p : Int) + 1) == 0) = false := by simp; omega
        have hg1 : ¬ ((p : Int) + 1 = 0) := by omega
        by_cases hxy : (srt zs).getD (p + 1) 0 = (srt zs).getD p 0
        · have e1 : cntTo (srt zs) (p + 1 + 1) = cq := by
            rw [HN.out, if_neg (by rw [Nat.add_sub_cancel]; simp only [hxy]; omega)]
            rfl
          have E1 := hid' e1
          clear e1 HN
          rw [hxy] at x1
          generalize (srt zs).getD p 0 = y at x0 x1
          go_wp2
          go_quiet (fail)
          go_wp2
          refine ⟨⟨p + 1 + 1, by omega, rfl, by rw [E1.out], hid' ⟨below_drewN HR.out.1 _, HR.out.2⟩⟩, ?_⟩
          simp [intOf]
          omega
        · have e1 : cntTo (srt zs) (p + 1 + 1) = cq + 1 := by
            rw [HN.out, if_pos (Or.inr (by rw [Nat.add_sub_cancel]; exact hxy))]
          have E1 := hid' e1
          clear e1 HN
          generalize (srt zs).getD p 0 = y at x0 x1 hxy
          generalize (srt zs).getD (p + 1) 0 = x at x0 x1 hxy
          have hne : (x == y) = false := by simpa using hxy
          have hne' : (x != y) = true := by simpa using hxy
          go_wp2
          go_quiet (fail)
          go_wp2
          refine ⟨⟨p + 1 + 1, by omega, rfl, by rw [E1.out]; rfl, hid' ⟨below_drewN HR.out.1 _, HR.out.2⟩⟩, ?_⟩
          simp [intOf]
          omega
    · have hqe : q = zs.length := by omega
      subst hqe
      have e1 : cntTo (srt zs) zs.length = distI zs := by
        have := cntTo_dist (srt_sorted zs) (srt_perm zs)
        rwa [srt_len] at this
      rw [e1]
      go_wp2
      go_ret
      exact ⟨rfl, HR.out.1⟩
end Go.Proofs.YbulkeifqGreat
