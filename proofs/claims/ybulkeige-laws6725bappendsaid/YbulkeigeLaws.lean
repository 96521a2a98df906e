/-
  A LAW ON append THAT THE KIT LACKS: an owned slice is appended to, AND WHAT IS BELOW B STAYS whenever the slice's own block is from B on OR THE SLICE IS FULL (its capacity its length: then a new row is made and nothing old is written). In three forms: the run's equation, a plain region's list, a step of a region that draws its order.
-/
import Derived.WalkKit
import Derived.WalkSpells
import Derived.ArgAppend
import Derived.Maps.AppendAt
import Derived.Deep.RegionLaw
namespace Go.Proofs.Ybulkeige
open Go.RowKit

/-- Behind an append to the slice (ao, n, cap): for each B that the slice's own row does not reach below (where the slice is full: for every B) what was below B is as it was, and the new value v owns k cells' worth of cs from B on. -/
def After (w w' : World) (ao : Option Addr) (n cap : Nat) (e : TypeId) (size : Nat) (v : Value) (k : Nat) (cs : List Value) : Prop :=
  ∀ B, B ≤ w.heap.size → (n < cap → ∀ x, ao = some x → B ≤ x.block) → Below B w w' ∧ w'.ownsRow B e size v k cs

theorem ownsRow_mono {w : World} {b b' : Nat} {e : TypeId} {size : Nat} {v : Value} {n : Nat} {xs : List Value} (h : w.ownsRow b e size v n xs) (hb : b' ≤ b) : w.ownsRow b' e size v n xs := by
  obtain ⟨h1, h2⟩ := h
  refine ⟨h1, ?_⟩
  rcases h2 with h2 | ⟨g, cap, cur, hv, hg, r⟩
  · exact Or.inl h2
  · exact Or.inr ⟨g, cap, cur, hv, Nat.le_trans hb hg, r⟩

theorem ownsRow_rebase {w : World} {b b' : Nat} {e : TypeId} {size : Nat} {v : Value} {n : Nat} {xs : List Value} (h : w.ownsRow b e size v n xs) (hb : ∀ g, v.ownBlock = some g → b' ≤ g) : w.ownsRow b' e size v n xs := by
  obtain ⟨h1, h2⟩ := h
  refine ⟨h1, ?_⟩
  rcases h2 with h2 | ⟨g, cap, cur, hv, hg, r⟩
  · exact Or.inl h2
  · exact Or.inr ⟨g, cap, cur, hv, hb g (by rw [hv]; rfl), r⟩

/-- The shape of an owned slice, written out. -/
theorem ownsRow_shape {w : World} {b : Nat} {e : TypeId} {size : Nat} {v : Value} {n : Nat} {xs : List Value} (h : w.ownsRow b e size v n xs) :
    ∃ ao cap, v = .slice ao n cap ∧ n ≤ cap ∧ (∀ x, ao = some x → b ≤ x.block) := by
  rcases h.2 with ⟨rfl, rfl⟩ | ⟨g, cap, cur, hv, hg, _, hc, _⟩
  · exact ⟨none, 0, rfl, Nat.le_refl _, fun x h => by cases h⟩
  · exact ⟨_, cap, hv, hc, fun x h => by cases h; exact hg⟩

theorem After.own {w w' : World} {ao : Option Addr} {n cap : Nat} {e : TypeId} {size : Nat} {v : Value} {k : Nat} {cs : List Value} (h : After w w' ao n cap e size v k cs) : w'.ownsRow 0 e size v k cs := (h 0 (Nat.zero_le _) (fun _ _ _ => Nat.zero_le _)).2

theorem After.of_alloc {w w' : World} {o : Obj} {ao : Option Addr} {n cap : Nat} {e : TypeId} {size : Nat} {v : Value} {k : Nat} {cs : List Value} (h : After (w.alloc o) w' ao n cap e size v k cs) : After w w' ao n cap e size v k cs := by
  intro B hB hx
  obtain ⟨h1, h2⟩ := h B (by simp; omega) hx
  exact ⟨((Below.refl B w).alloc hB o).trans h1, h2⟩

theorem After.of_drew {w w' : World} {ao : Option Addr} {n cap : Nat} {e : TypeId} {size : Nat} {v : Value} {k : Nat} {cs : List Value} (h : After w.drew w' ao n cap e size v k cs) : After w w' ao n cap e size v k cs := by
  intro B hB hx
  obtain ⟨h1, h2⟩ := h B hB hx
  exact ⟨((Below.refl B w).drew).trans h1, h2⟩

theorem After.drew {w w' : World} {ao : Option Addr} {n cap : Nat} {e : TypeId} {size : Nat} {v : Value} {k : Nat} {cs : List Value} (h : After w w' ao n cap e size v k cs) : After w w'.drew ao n cap e size v k cs :=
  fun B hB hx => ⟨(h B hB hx).1.drew, (h B hB hx).2⟩

/-- Two appends, one behind the other. -/
theorem After.trans {w w1 w2 : World} {ao ao1 : Option Addr} {n cap k cap1 k2 : Nat} {e : TypeId} {size : Nat} {v2 : Value} {cs cs2 : List Value}
    (h : After w w1 ao n cap e size (.slice ao1 k cap1) k cs) (g : After w1 w2 ao1 k cap1 e size v2 k2 cs2) : After w w2 ao n cap e size v2 k2 cs2 := by
  intro B hB hx
  obtain ⟨h1, h2⟩ := h B hB hx
  obtain ⟨g1, g2⟩ := g B (Nat.le_trans hB h1.size) (fun _ x hx' => by
    obtain ⟨a, c, e', _, hb⟩ := ownsRow_shape h2
    cases e'
    exact hb x hx')
  exact ⟨h1.trans g1, g2⟩

theorem run_append_after {P : Program} (w : World) (t ty e : TypeId) (i : TypeInfo) (z : Value) (size bytes : Nat) (ht : P.underlying t = some (.slice e)) (hi : P.info? e = some i) (hz : i.zero = some z)
    (hsize : i.size = size) (hby : i.bytes = bytes) (hzs : z.cells.size = size) (hsz : 0 < size)
    (ao : Option Addr) (n cap : Nat) (xs : List Value) (hown : w.ownsRow 0 e size (.slice ao n cap) n xs)
    (ad : Addr) (m c : Nat) (news : List Value) (hl : news.length = m * size) (hnews : ∀ j u, news[j]? = some u → w.cell? (ad.add j) = some u) (h1 : ∀ u ∈ news, u.oneCell' = true)
    (hm : 0 < m) (h63 : n + m ≤ maxLen) (hbytes : (n + m) * bytes ≤ 140737488355328) :
    ∃ v' w', (Builtin.append_ #[t, t] ty #[.slice ao n cap, .slice (some ad) m c]).run P w = .ok v' w' ∧ After w w' ao n cap e size v' (n + m) (xs ++ news) := by
  by_cases hc : n < cap
  · obtain ⟨v', w', hr, h2, h3, _, h5⟩ := run_append_own_at (P := P) w 0 t ty e i z size bytes ht hi hz hsize hby hzs hsz (.slice ao n cap) n xs hown ad m c news hl hnews h1 h63 hbytes (Nat.zero_le _)
    refine ⟨v', w', hr, fun B hB hx => ?_⟩
    have ho : ∀ k, Value.ownBlock (.slice ao n cap) = some k → B ≤ k := by
      intro k hk
      cases ao with
      | none => simp [Value.ownBlock] at hk
      | some y =>
        simp only [Value.ownBlock, Option.some.injEq] at hk
        subst hk
        exact hx hc y rfl
    refine ⟨(Below.refl _ _).grown h3 hB ho, ownsRow_rebase h2 ?_⟩
    intro g hg
    rcases h5 with h5 | h5
    · exact ho g (h5 ▸ hg)
    · rw [h5] at hg
      cases hg
      exact hB
  · cases ao with
    | some y =>
      have holds : ∀ j u, xs[j]? = some u → w.cell? (y.add j) = some u := by
        rcases hown.2 with ⟨h', _⟩ | ⟨g', cap', cur, h', _⟩
        · simp at h'
        · simp only [Value.slice.injEq, Option.some.injEq] at h'
          obtain ⟨rfl, _, _⟩ := h'
          exact hown.cells rfl
      obtain ⟨v', w', hr, r1, r2⟩ := run_append_arg_grows (P := P) w t ty e i z size bytes ht hi hz hsize hby hzs hsz y n cap xs hown.1 holds ad m c news hl hnews (by omega) h63 hbytes
      exact ⟨v', w', hr, fun B hB _ => ⟨(Below.refl _ _).grown r2 hB (fun k hk => by cases hk), ownsRow_mono r1 hB⟩⟩
    | none =>
      obtain ⟨rfl, rfl⟩ : n = 0 ∧ cap = 0 := by
        rcases hown.2 with ⟨h', _⟩ | ⟨g', cap', cur, h', _⟩
        · simpa using h'
        · simp at h'
      obtain rfl : xs = [] := List.eq_nil_of_length_eq_zero (by simpa using hown.1)
      obtain ⟨v', w', hr, r1, r2, _⟩ := run_append_own (P := P) w w.heap.size t ty e i z size bytes ht hi hz hsize hby hzs hsz (.slice none 0 0) 0 [] (World.ownsRow_nil w _ e size) ad m c news hl hnews h1 h63 hbytes (Nat.le_refl _)
      exact ⟨v', w', hr, fun B hB _ => ⟨(Below.refl _ _).grown r2 hB (fun k hk => by cases hk), ownsRow_mono r1 hB⟩⟩

theorem wpList_append_after {P : Program} (w : World) {ops : Array Oper} {rest : List Oper} {o : Oper} {a : Act} {Q : Exit → Act → World → Prop} (hgd : o.guard = none) (s x : Operand) (t : TypeId)
    (ho : o.op = .call { callee := .builtin .append, args := #[s, x], argTypes := #[t, t] })
    (e : TypeId) (i : TypeInfo) (z : Value) (size bytes : Nat) (ht : P.underlying t = some (.slice e)) (hi : P.info? e = some i) (hz : i.zero = some z)
    (hsize : i.size = size) (hby : i.bytes = bytes) (hzs : z.cells.size = size) (hsz : 0 < size)
    (ao : Option Addr) (n cap : Nat) (xs : List Value) (hs : a.eval s = .slice ao n cap) (hown : w.ownsRow 0 e size (.slice ao n cap) n xs)
    (ad : Addr) (m c : Nat) (news : List Value) (hx : a.eval x = .slice (some ad) m c) (hl : news.length = m * size) (hnews : ∀ j u, news[j]? = some u → w.cell? (ad.add j) = some u) (h1 : ∀ u ∈ news, u.oneCell' = true)
    (hm : 0 < m) (h63 : n + m ≤ maxLen) (hbytes : (n + m) * bytes ≤ 140737488355328)
    (h : ∀ v' w', After w w' ao n cap e size v' (n + m) (xs ++ news) → wpList P ops Q rest (a.put o.dst v') w') : wpList P ops Q (o :: rest) a w := by
  refine wpList_plain hgd fun K hK => ?_
  obtain ⟨v', w', hr, h2⟩ := run_append_after (P := P) w t o.type e i z size bytes ht hi hz hsize hby hzs hsz ao n cap xs hown ad m c news hl hnews h1 hm h63 hbytes
  unfold Oper.wp execOp
  simp only [ho, resolve, invoke, builtin, Sem.run_bind, Sem.run_pure, Result.andThen_ok, List.map_toArray, List.map_cons, List.map_nil, hs, hx, hr]
  exact hK _ _ (h v' w' h2)

theorem step_append_after {P : Program} (w : World) {ops : Array Oper} {o : Oper} {a : Act} {K : Act → World → Prop} {Q : Exit → Act → World → Prop} {E : Prop} (hgd : o.guard = none) (s x : Operand) (t : TypeId)
    (ho : o.op = .call { callee := .builtin .append, args := #[s, x], argTypes := #[t, t] })
    (e : TypeId) (i : TypeInfo) (z : Value) (size bytes : Nat) (ht : P.underlying t = some (.slice e)) (hi : P.info? e = some i) (hz : i.zero = some z)
    (hsize : i.size = size) (hby : i.bytes = bytes) (hzs : z.cells.size = size) (hsz : 0 < size)
    (ao : Option Addr) (n cap : Nat) (xs : List Value) (hs : a.eval s = .slice ao n cap) (hown : w.ownsRow 0 e size (.slice ao n cap) n xs)
    (ad : Addr) (m c : Nat) (news : List Value) (hx : a.eval x = .slice (some ad) m c) (hl : news.length = m * size) (hnews : ∀ j u, news[j]? = some u → w.cell? (ad.add j) = some u) (h1 : ∀ u ∈ news, u.oneCell' = true)
    (hm : 0 < m) (h63 : n + m ≤ maxLen) (hbytes : (n + m) * bytes ≤ 140737488355328)
    (h : ∀ ao1 cap1 w', After w w' ao n cap e size (.slice ao1 (n + m) cap1) (n + m) (xs ++ news) → K (a.put o.dst (.slice ao1 (n + m) cap1)) w') :
    if Region.wanted o (yielded ops a.tmps) = true then Oper.wp P o a w K Q else E := by
  have hw : Region.wanted o (yielded ops a.tmps) = true := by simp [Region.wanted, hgd]
  rw [if_pos hw]
  obtain ⟨v', w', hr, h2⟩ := run_append_after (P := P) w t o.type e i z size bytes ht hi hz hsize hby hzs hsz ao n cap xs hown ad m c news hl hnews h1 hm h63 hbytes
  obtain ⟨ao1, cap1, rfl, _⟩ := ownsRow_shape h2.own
  unfold Oper.wp execOp
  simp only [ho, resolve, invoke, builtin, Sem.run_bind, Sem.run_pure, Result.andThen_ok, List.map_toArray, List.map_cons, List.map_nil, hs, hx, hr]
  exact h ao1 cap1 w' h2

/-- The cells of a row that has just been laid. -/
theorem news_new (w : World) (cs : Array Value) (t : TypeId) (N : Nat) (hN : N = w.heap.size) : ∀ j u, cs.toList[j]? = some u → (w.alloc (.cells cs t)).cell? ((⟨N, 0, none⟩ : Addr).add j) = some u := by
  intro j u hj
  subst hN
  rw [Addr.add_lit, Nat.zero_add, World.cell?_alloc_new]
  simpa using hj

end Go.Proofs.Ybulkeige
