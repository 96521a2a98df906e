/-
  THE LAW's LAST LOOP: what it stands on. No walk.
-/
import Derived.Test.YbulkeifqGreatLawCode
import Derived.Test.YbulkeifqGreatBefore
import Derived.Laws.StructEq
import Derived.WalkKit
import Derived.WalkSpells
import Derived.WalkLawsBesides
namespace Go.Proofs.YbulkeifqGreat
open Go.RowKit Go.Maps
set_option linter.unusedVariables false

theorem wrap_small {x : Int} (h0 : 0 ≤ x) (h1 : x ≤ 8000000) : IntKind.i64.wrap x = x := by
  simp only [IntKind.wrap, IntKind.bits, IntKind.signed]
  have e : x % 2 ^ 64 = x := Int.emod_eq_of_lt h0 (by omega)
  simp only [e]
  rw [if_neg]
  simp
  omega

theorem g39 : Ybaz.prog.eqGuardType Ybaz.prog.depth 39 = false := by kernel_rfl
theorem st39 : Ybaz.prog.stoodInHeld 39 = false := by kernel_rfl
theorem f39 : Ybaz.prog.underlying 39 = some (.struct (Ybaz.prog.fieldsOf 39)) := by kernel_rfl
theorem guard39 (x y : Operand) (a b : Int) (w : World) : (eqGuard .neq 39 x y (vInt a) (vInt b)).run Ybaz.prog w = .ok () w := run_eqGuard_agg w _ _ _ _ _ _ g39
theorem neq39 (x : Int) (w : World) : (binOp .neq 39 (vInt x) (vInt x)).run Ybaz.prog w = .ok (.bool false) w := by
  rw [run_neq_struct, run_equalIn_agg w 9999 39 _ _ f39 st39]
  simp only [Program.fieldsOf, Ybaz.underlying39]
  simp [go_sem, Op.eqFields, Ybaz.underlying37, Ybaz.underlying2, Ybaz.underlying9]

theorem getD_in {zs : List Int} {q : Nat} (h : q < zs.length) : zs.getD q 0 ∈ zs := by
  rw [List.getD_eq_getElem?_getD, List.getElem?_eq_getElem h]
  simp

theorem mem_getD {zs : List Int} {z : Int} (h : z ∈ zs) : ∃ k, k < zs.length ∧ zs.getD k 0 = z := by
  obtain ⟨k, hk, e⟩ := List.getElem_of_mem h
  exact ⟨k, hk, by rw [List.getD_eq_getElem?_getD, List.getElem?_eq_getElem hk, e]; rfl⟩

/-- The least so far. -/
def MinTo (zs : List Int) (q : Nat) (m : Int) : Prop := m ∈ zs ∧ ∀ k, k < q → m ≤ zs.getD k 0
def MaxTo (zs : List Int) (q : Nat) (m : Int) : Prop := m ∈ zs ∧ ∀ k, k < q → zs.getD k 0 ≤ m

theorem MinTo.less {zs : List Int} {q : Nat} {m : Int} (h : MinTo zs q m) (hq : q < zs.length) (hl : zs.getD q 0 < m) : MinTo zs (q + 1) (zs.getD q 0) :=
  ⟨getD_in hq, fun k hk => by
    by_cases e : k = q
    · rw [e]; exact Int.le_refl _
    · have := h.2 k (by omega); omega⟩
theorem MinTo.keep {zs : List Int} {q : Nat} {m : Int} (h : MinTo zs q m) (hl : ¬ zs.getD q 0 < m) : MinTo zs (q + 1) m :=
  ⟨h.1, fun k hk => by
    by_cases e : k = q
    · rw [e]; omega
    · exact h.2 k (by omega)⟩
theorem MaxTo.more {zs : List Int} {q : Nat} {m : Int} (h : MaxTo zs q m) (hq : q < zs.length) (hl : m < zs.getD q 0) : MaxTo zs (q + 1) (zs.getD q 0) :=
  ⟨getD_in hq, fun k hk => by
    by_cases e : k = q
    · rw [e]; exact Int.le_refl _
    · have := h.2 k (by omega); omega⟩
theorem MaxTo.keep {zs : List Int} {q : Nat} {m : Int} (h : MaxTo zs q m) (hl : ¬ m < zs.getD q 0) : MaxTo zs (q + 1) m :=
  ⟨h.1, fun k hk => by
    by_cases e : k = q
    · rw [e]; omega
    · exact h.2 k (by omega)⟩
theorem MinTo.want {zs : List Int} {m x rg : Int} (h : MinTo zs zs.length m) (hw : WantOK 1 rg zs x) : x = m :=
  want_min hw h.1 (fun z hz => by obtain ⟨k, hk, rfl⟩ := mem_getD hz; exact h.2 k hk)
theorem MaxTo.want {zs : List Int} {m x rg : Int} (h : MaxTo zs zs.length m) (hw : WantOK 2 rg zs x) : x = m :=
  want_max hw h.1 (fun z hz => by obtain ⟨k, hk, rfl⟩ := mem_getD hz; exact h.2 k hk)

/-- What the law's last loop stands on. -/
structure LSt4 (w : World) (B M I GV CV SV E0 B2 IX : Nat) (us : List Int) (cur : Value) (n stop sel : Nat) (c op rg : Int) (Ts : List TR) (G : List (Nat × List Int)) (kv vv : Value) (cc : Nat → Nat) (S : List Value) : Prop where
  mach : Mach w B M I us cur (n : Int)
  est : ESt w GV CV SV E0 stop c Ts
  mst : MSt w B2 IX kv vv (G.map Prod.fst) (G.map Prod.snd) cc S
  tup : ∀ (j : Nat) (t : TR), Ts[j]? = some t → ∃ p : Nat × List Int, G[j]? = some p ∧ t.a < us.length ∧ t.b < us.length ∧ us.getD t.a 0 = (p.1 : Int) ∧ WantOK op rg p.2 (us.getD t.b 0)
  len : Ts.length ≤ 256 ∧ Ts.length ≤ G.length
  grp : ∀ p ∈ G, p.2 ≠ [] ∧ p.2.length ≤ 1048576
  glen : G.length ≤ 1048576
  sel : SelOK sel op rg

theorem LSt4.below {w w' : World} {B M I GV CV SV E0 B2 IX : Nat} {us : List Int} {cur : Value} {n stop sel : Nat} {c op rg : Int} {Ts : List TR} {G : List (Nat × List Int)} {kv vv : Value} {cc : Nat → Nat} {S : List Value}
    (h : LSt4 w B M I GV CV SV E0 B2 IX us cur n stop sel c op rg Ts G kv vv cc S) (b : Below w.heap.size w w') : LSt4 w' B M I GV CV SV E0 B2 IX us cur n stop sel c op rg Ts G kv vv cc S :=
  ⟨h.mach.below b, h.est.ch (S := fun _ _ => False) (Ch.of_below b) (by simp) (by simp) (by simp) (by simp), h.mst.below b, h.tup, h.len, h.grp, h.glen, h.sel⟩

theorem own_some {w : World} {B : Nat} {e : TypeId} {v : Value} {n : Nat} {xs : List Value} (h : w.ownsRow B e 1 v n xs) (hn : 0 < n) : ∃ g cap, v = .slice (some ⟨g, 0, none⟩) n cap ∧ g < w.heap.size ∧ n ≤ cap ∧ ∀ j, j < n → w.cell? ⟨g, j, none⟩ = xs[j]? := by
  rcases h.2 with ⟨_, h0⟩ | ⟨g, cap, cur, rfl, hg, hh, hc, r⟩
  · omega
  · exact ⟨g, cap, rfl, lt_blk hh, hc, fun j hj => h.cellAt j (by omega)⟩

theorem LSt4.at {w : World} {B M I GV CV SV E0 B2 IX : Nat} {us : List Int} {cur : Value} {n stop sel : Nat} {c op rg : Int} {Ts : List TR} {G : List (Nat × List Int)} {kv vv : Value} {cc : Nat → Nat} {S : List Value}
    (h : LSt4 w B M I GV CV SV E0 B2 IX us cur n stop sel c op rg Ts G kv vv cc S) {j : Nat} (hj : j < Ts.length) :
    ∃ (t : TR) (p : Nat × List Int) (gg gcap vb mcap kb kcap ob ocap sb scap : Nat), w.cell? ⟨GV, 0, none⟩ = some (.slice (some ⟨gg, 0, none⟩) Ts.length gcap) ∧ w.cell? ⟨gg, j, none⟩ = some (.slice (some ⟨t.g, 0, none⟩) 2 t.cap) ∧ w.cell? ⟨t.g, 0, none⟩ = some (.int .u32 t.a) ∧ w.cell? ⟨t.g, 1, none⟩ = some (.int .u32 t.b) ∧
      w.cell? ⟨M, 1, none⟩ = some (.slice (some ⟨vb, 0, none⟩) us.length mcap) ∧ (w.cell? ⟨vb, t.a * 3, none⟩ = some (.int .u8 0) ∧ w.cell? ⟨vb, t.a * 3 + 1, none⟩ = some (.int .i64 (p.1 : Int)) ∧ w.cell? ⟨vb, t.a * 3 + 2, none⟩ = some (.string nil8)) ∧ (w.cell? ⟨vb, t.b * 3, none⟩ = some (.int .u8 0) ∧ w.cell? ⟨vb, t.b * 3 + 1, none⟩ = some (.int .i64 (us.getD t.b 0)) ∧ w.cell? ⟨vb, t.b * 3 + 2, none⟩ = some (.string nil8)) ∧
      kv = .slice (some ⟨kb, 0, none⟩) G.length kcap ∧ w.cell? ⟨kb, j, none⟩ = some (.int .u8 (p.1 : Int)) ∧ vv = .slice (some ⟨ob, 0, none⟩) G.length ocap ∧ w.cell? ⟨ob, j, none⟩ = some (.slice (some ⟨sb, 0, none⟩) p.2.length scap) ∧ (∀ i, i < p.2.length → w.cell? ⟨sb, i, none⟩ = some (.int .i64 (p.2.getD i 0))) ∧
      t.a < us.length ∧ t.b < us.length ∧ WantOK op rg p.2 (us.getD t.b 0) ∧ 0 < p.2.length ∧ p.2.length ≤ 1048576 ∧ us.length ≤ 8000000 ∧ j < G.length ∧ p.1 < 256 := by
  obtain ⟨t, ht⟩ : ∃ t, Ts[j]? = some t := ⟨Ts[j], List.getElem?_eq_getElem hj⟩
  obtain ⟨p, hp, ha, hb, hka, hw⟩ := h.tup j t ht
  have hpm : p ∈ G := List.mem_of_getElem? hp
  have hjG : j < G.length := (List.getElem?_eq_some_iff.1 hp).1
  obtain ⟨gv, g1, g2⟩ := h.est.got
  obtain ⟨gg, gcap, rfl, _, _, g3⟩ := own_some g2 (by omega)
  obtain ⟨vb, mcap, m1, _, _, m2⟩ := mach_cells h.mach (by omega)
  obtain ⟨kb, kcap, hkv, _, _, k3⟩ := own_some h.mst.keys (by simpa using Nat.lt_of_le_of_lt (Nat.zero_le _) hjG)
  have hSl : S.length = G.length := by have := h.mst.len.1; simpa using this
  obtain ⟨ob, ocap, hvv, _, _, o3⟩ := own_some h.mst.vals (by omega)
  obtain ⟨s, hs⟩ : ∃ s, S[j]? = some s := ⟨S[j]'(by omega), List.getElem?_eq_getElem _⟩
  have hr := h.mst.rows j s p.2 hs (by rw [List.getElem?_map, hp]; rfl)
  have hp0 : 0 < p.2.length := List.length_pos_iff.2 (h.grp p hpm).1
  obtain ⟨sb, scap, rfl, _, _, s3⟩ := own_some hr hp0
  obtain ⟨_, cs, q2, q3, q4⟩ := h.est.rows t (List.mem_of_getElem? ht)
  have hp1 : p.1 < 256 := h.mst.ok.2.1 p.1 (List.mem_map.2 ⟨p, hpm, rfl⟩)
  refine ⟨t, p, gg, gcap, vb, mcap, kb, kcap, ob, ocap, sb, scap, by rw [cell_blk g1]; rfl, ?_, by rw [cell_blk q2]; exact q3, by rw [cell_blk q2]; exact q4, by rw [cell_blk m1]; rfl, ?_, m2 t.b hb, by simpa using hkv, ?_, by rw [hvv, hSl], ?_, ?_, ha, hb, hw, hp0, (h.grp p hpm).2, h.mach.len, hjG, hp1⟩
  · rw [g3 j hj, List.getElem?_map, ht]
    rfl
  · have := m2 t.a ha
    rw [hka] at this
    exact this
  · rw [k3 j (by simpa using hjG), List.getElem?_map, List.getElem?_map, hp]
    rfl
  · rw [o3 j (by omega), hs]
  · intro i hi
    rw [s3 i hi, List.getElem?_map, List.getD_eq_getElem?_getD, List.getElem?_eq_getElem hi]
    rfl
end Go.Proofs.YbulkeifqGreat
