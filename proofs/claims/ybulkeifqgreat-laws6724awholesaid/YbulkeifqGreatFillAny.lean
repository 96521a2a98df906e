/-
  'fill' (18) at a group.
-/
import Derived.Test.YbulkeifqGreatFill
namespace Go.Proofs.YbulkeifqGreat
open Go.RowKit Go.Maps
set_option linter.unusedVariables false

theorem dist_le : ∀ xs : List Nat, dist xs ≤ xs.length
  | [] => Nat.le_refl _
  | x :: r => by
    have := dist_le r
    simp only [dist, List.length_cons]
    split <;> omega

/-- What the aggregate is to be. -/
def ResOK (op rg : Int) (vs : List Int) (xs : List Nat) (val : Int) : Prop :=
  (op = 0 → rg = -1 → val = xs.length) ∧ (op = 0 → rg = 1 → val = dist xs) ∧ (op = 1 ∨ op = 2 → ∃ b ∈ xs, val = vs.getD b 0 ∧ ∀ x ∈ xs, befB op (vs.getD x 0) val = false)

theorem getD_idxOf {us : List Int} {i : Int} (h : i ∈ us) : us.idxOf i < us.length ∧ us.getD (us.idxOf i) 0 = i := by
  have h1 := List.idxOf_lt_length_iff.2 h
  refine ⟨h1, ?_⟩
  rw [List.getD_eq_getElem?_getD, List.getElem?_eq_getElem h1]
  simp

theorem Mach.ne {w : World} {B M I : Nat} {vs : List Int} {cur : Value} {work : Int} (h : Mach w B M I vs cur work) {b : Nat} {cs : Array Value} {t : TypeId} (hb : w.heap[b]? = some (.cells cs t (0, 0))) (ht : t ≠ 31) : b ≠ M ∧ b ≠ I := by
  obtain ⟨vv, h1, _⟩ := h.blk
  obtain ⟨D, ⟨es, ck, h2, _⟩, _⟩ := h.ids
  exact ⟨ne_blk hb h1 ht, ne_map hb h2⟩

theorem Mach.set {w : World} {B M I : Nat} {vs : List Int} {cur : Value} {work : Int} (h : Mach w B M I vs cur work) {b o : Nat} {cs : Array Value} {t : TypeId} (hb : w.heap[b]? = some (.cells cs t (0, 0))) (ht : t ≠ 31) (ht' : t ≠ 39) (hB : B ≤ b) (v : Value) : Mach (w.setCell ⟨b, o, none⟩ v) B M I vs cur work := by
  obtain ⟨e1, e2⟩ := h.ne hb ht
  exact h.kept (D := [b]) (T := []) (Fr.setCell (Fr.refl _ _ _ _) hB (by simp) _) (by simp [Ne.symm e1]) (by simp [Ne.symm e2]) (by simp) (by simp) (fun k cs' fr hk => by
    have : k ≠ b := ne_blk hk hb (Ne.symm ht')
    simp [this])

theorem fill_end {w w1 : World} {lo hi B M I gb hb hc k0 : Nat} {k1 : Int} {us : List Int} {cur : Value} {work : Int} {r : Nat} (hM1 : Mach w1 B M I us cur work) (hF : Fr B [M, I] [39] w w1) (hB : B ≤ lo) (hML : M ∉ [hb]) (a3 : hb < hi)
    (h2 : w.ownsRow lo 35 1 (.slice (some ⟨hb, 0, none⟩) 2 hc) 2 [.int .u32 k0, .int .u32 k1]) (hne : hb ∉ [M, I]) :
    Mach (w1.setCell ⟨hb, 1, none⟩ (.int .u32 r)) B M I us cur work ∧ (w1.setCell ⟨hb, 1, none⟩ (.int .u32 r)).cell? ⟨hb, 0, none⟩ = some (.int .u32 k0) ∧ (w1.setCell ⟨hb, 1, none⟩ (.int .u32 r)).cell? ⟨hb, 1, none⟩ = some (.int .u32 r) ∧
      Ch 0 (OnFill M I lo hi) w (w1.setCell ⟨hb, 1, none⟩ (.int .u32 r)) := by
  obtain ⟨cs, hcs⟩ := own_blk h2
  have hbl := own_lt h2
  have hb1 := hF.keep hcs hne (by decide)
  have h21 := hF.ownsRow h2 (by intro k hk; cases hk; exact hne) (by decide)
  have q0 : cs[0]? = some (.int .u32 k0) := by rw [← cell_blk hb1]; exact h21.cellAt 0 (by omega)
  have q1 : cs[1]? = some (.int .u32 k1) := by rw [← cell_blk hb1]; exact h21.cellAt 1 (by omega)
  refine ⟨hM1.set hb1 (by decide) (by decide) (by omega) _, ?_, ?_, ?_⟩
  · rw [cell_blk (set_blk hb1 1 _)]
    simpa [Array.getElem?_setIfInBounds] using q0
  · rw [cell_blk (set_blk hb1 1 _)]
    have : 1 < cs.size := (Array.getElem?_eq_some_iff.1 q1).1
    simp [this]
  · refine Ch.setCell (Ch.trans (w1 := w1) ?_ (Ch.refl _ _ _)) (Nat.zero_le _) (fun x hx => ?_) _
    · refine Ch.of_fr (Fr.mono hF (Nat.zero_le _) (fun _ h => h) (fun _ h => h)) (fun k o hk _ h => ?_)
      rcases h with h | ⟨cs', t, fr, rfl, ht⟩
      · simp at h
        rcases h with h | h
        · exact .inl h
        · exact .inr (.inl h)
      · simp at ht; subst ht
        exact .inr (.inr (.inl ⟨_, _, rfl⟩))
    · rw [hb1] at hx
      cases hx
      exact .inr (.inr (.inr ⟨hbl.2, a3, gt35⟩))

theorem fill_any {w : World} {lo hi B M I GB gb k0 : Nat} {op rg : Int} {vs e0 : List Int} {xs : List Nat} {cur : Value} {work : Int} (hmd : Mode op rg) (hG : Grp w lo hi op rg vs gb k0 xs) (hx0 : xs ≠ []) (hxl : xs.length ≤ 2000000) (hxv : ∀ x ∈ xs, x < vs.length)
    (hM : Mach w B M I (vs ++ e0) cur work) (hul : (vs ++ e0).length < 8000000) (hB : B ≤ lo) (hIlo : I < lo) (hhi : hi ≤ w.heap.size)
    (hGB : w.heap[GB]? = some (.cells #[.int .i64 1, .int .u8 op, .int .i64 rg] 59 (0, 0))) :
    Calls Ybaz.prog 18 #[.pointer (some ⟨gb, 0, none⟩), .pointer (some ⟨M, 0, none⟩), .slice (some ⟨GB, 0, none⟩) 1 1] w fun e w' => ∃ hb hc ext r, e = .returned (.slice (some ⟨hb, 0, none⟩) 2 hc) ∧ ext.length ≤ 1 ∧
      Mach w' B M I (vs ++ (e0 ++ ext)) cur work ∧ r < (vs ++ (e0 ++ ext)).length ∧ ResOK op rg vs xs ((vs ++ (e0 ++ ext)).getD r 0) ∧ w'.cell? ⟨hb, 0, none⟩ = some (.int .u32 k0) ∧ w'.cell? ⟨hb, 1, none⟩ = some (.int .u32 r) ∧ Ch 0 (OnFill M I lo hi) w w' := by
  obtain ⟨hb, hc, sb, bb, k1, sm, bs, h1, h2, h3, h4, h5, ⟨a1, a2, a3, a4, a5, a6, a7⟩, h7, h8⟩ := hG
  obtain ⟨hcs, hhb⟩ := own_blk h2
  have hbl := own_lt h2
  obtain ⟨nM, nI⟩ := hM.ne hhb (by decide)
  have c1 : w.cell? ⟨hb, 1, none⟩ = some (.int .u32 k1) := h2.cellAt 1 (by omega)
  have hdl := dist_le xs
  rcases hmd with ⟨rfl, rfl⟩ | ⟨rfl, rfl⟩ | ⟨hop, rfl⟩
  · refine (fill_star (k0 := .int .u32 k0) (by omega) hM hul (by omega) h1 hGB ⟨_, hhb⟩ c1).mono ?_
    rintro e w' ⟨ext, w1, hext, hmem, rfl, hM1, hF, rfl⟩
    obtain ⟨r1, r2, r3, r4⟩ := fill_end (hi := hi) (gb := gb) (r := (vs ++ e0 ++ ext).idxOf (xs.length : Int)) hM1 hF hB (by simp [Ne.symm nM]) a3 h2 (by simp [nM, nI])
    obtain ⟨i1, i2⟩ := getD_idxOf hmem
    rw [List.append_assoc] at r1 i1 i2 r3 r4 r2
    refine ⟨hb, hc, ext, _, rfl, by rcases hext with rfl | rfl <;> simp, ?_, i1, ?_, ?_, ?_, ?_⟩
    · rw [List.append_assoc]; exact r1
    · rw [i2]; exact ⟨fun _ _ => rfl, fun _ h => absurd h (by decide), fun h => absurd h (by decide)⟩
    · rw [List.append_assoc]; exact r2
    · rw [List.append_assoc]; exact r3
    · rw [List.append_assoc]; exact r4
  · rcases h7 rfl rfl with ⟨rfl, rfl⟩ | ⟨mb, D, rfl, q2, q3, q4, q5⟩
    · exact absurd rfl hx0
    · refine (fill_cnt (n := dist xs) (k0 := .int .u32 k0) (by omega) hM hul (by omega) h1 hGB h3 q4 q5.2 (by omega) ⟨_, hhb⟩ c1).mono ?_
      rintro e w' ⟨ext, w1, hext, hmem, rfl, hM1, hF, rfl⟩
      obtain ⟨r1, r2, r3, r4⟩ := fill_end (hi := hi) (gb := gb) (r := (vs ++ e0 ++ ext).idxOf (dist xs : Int)) hM1 hF hB (by simp [Ne.symm nM]) a3 h2 (by simp [nM, nI])
      obtain ⟨i1, i2⟩ := getD_idxOf hmem
      rw [List.append_assoc] at r1 i1 i2 r3 r4 r2
      refine ⟨hb, hc, ext, _, rfl, by rcases hext with rfl | rfl <;> simp, ?_, i1, ?_, ?_, ?_, ?_⟩
      · rw [List.append_assoc]; exact r1
      · rw [i2]; exact ⟨fun _ h => absurd h (by decide), fun _ _ => rfl, fun h => absurd h (by decide)⟩
      · rw [List.append_assoc]; exact r2
      · rw [List.append_assoc]; exact r3
      · rw [List.append_assoc]; exact r4
  · have h0 : ¬ op = 0 := by rcases hop with rfl | rfl <;> omega
    obtain ⟨b1, b2⟩ := h8 hop hx0
    have bl := hxv _ b1
    refine (fill_best (mp := .pointer (some ⟨M, 0, none⟩)) hop h1 hGB h4 ⟨_, hhb⟩ c1).mono ?_
    rintro e w' ⟨rfl, w1, hbel, rfl⟩
    obtain ⟨r1, r2, r3, r4⟩ := fill_end (hi := hi) (gb := gb) (r := bs) (hM.below hbel) (Fr.of_below hbel) hB (by simp [Ne.symm nM]) a3 h2 (by simp [nM, nI])
    have hg : (vs ++ (e0 ++ [])).getD bs 0 = vs.getD bs 0 := by
      simp only [List.getD_eq_getElem?_getD]
      rw [List.getElem?_append_left bl]
    refine ⟨hb, hc, [], bs, rfl, by simp, by simpa using r1, by simp; omega, ?_, r2, r3, r4⟩
    rw [hg]
    exact ⟨fun h => absurd h h0, fun h => absurd h h0, fun _ => ⟨bs, b1, rfl, b2⟩⟩
end Go.Proofs.YbulkeifqGreat
