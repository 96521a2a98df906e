/-
  'aggregate' (10): behind 'exec', ahead of the loop over the groups. No walk.
-/
import Derived.Test.YbulkeifqGreatAggStart
namespace Go.Proofs.YbulkeifqGreat
open Go.RowKit Go.Maps
set_option linter.unusedVariables false

theorem agg_mid {w : World} {SB RL DB AB n : Nat} {kd vd : Nat → Nat} {v0 v1 v2 v3 v4 v5 v6 RU HB GB RB KB GM M I G0 B PB GV CV SV : Nat} {op rg : Int} {vs : List Int} {cur : Value} {work : Int} {k v stop : Nat} {L : List GR} {ov : Value}
    (x : XSt w SB RL DB AB n kd vd v0 v1 v2 v3 v4 v5 v6 RU HB GB RB KB GM M I G0 B PB op rg vs cur work n k v L) (ho : w.ownsRow G0 93 1 ov L.length (L.map fun g => .pointer (some ⟨g.gb, 0, none⟩)))
    (hG : w.heap[GV]? = some (.cells #[.slice none 0 0] 75 (0, 0))) (hC : w.heap[CV]? = some (.cells #[.int .i64 0] 3 (0, 0))) (hS : w.heap[SV]? = some (.cells #[.int .i64 stop] 3 (0, 0))) (hCS : CV ≠ SV) (hn : n ≤ 1048576) (hvl : vs.length ≤ 2097152) :
    LSt w v0 v1 v2 v4 v5 RU HB GB RB KB GM M I G0 B w.heap.size GV CV SV op rg vs [] cur work stop 0 ov L [] := by
  obtain ⟨top, t1, t2⟩ := x.ast.grps
  obtain ⟨l1, l2, l3, l4, l5, l6, l7, l8, l9, l10⟩ := x.low
  have hk := x.ast.low.2.2.2.2
  refine ⟨⟨k, v, x.cf⟩, by simpa using x.mach, by simp, ho, ⟨G0, top, Nat.le_refl _, t1, by simpa using t2⟩, ⟨⟨_, hG, ⟨rfl, .inl ⟨rfl, rfl⟩⟩⟩, hC, hS, hCS, by simp, ⟨lt_blk hG, lt_blk hC, lt_blk hS, Nat.le_refl _⟩⟩, ⟨rfl, Nat.zero_le _⟩, ?_, ?_, ⟨lt_blk x.cf.b1, lt_blk x.cf.b2⟩, ⟨l2, l3, l4, l7, hk, hvl, Nat.le_trans x.ast.len hn⟩⟩
  · intro j t ht
    simp at ht
  · intro g hg
    obtain ⟨a1, a2, a3, a4⟩ := x.ast.all g hg
    exact ⟨a2, by omega, a4⟩
end Go.Proofs.YbulkeifqGreat
