/-
  THE LAW, PLAIN: what the law's own model gathers is what 'aggregate' gathers. No walk.
-/
import Derived.Test.YbulkeifqGreatAggLaws
import Derived.Test.YbulkeifqGreatDist
namespace Go.Proofs.YbulkeifqGreat
open Go.RowKit Go.Maps
set_option linter.unusedVariables false

/-- The rows' values, gathered by their keys. -/
def gv (K : Nat → Nat) (V : Nat → Int) : Nat → List (Nat × List Int)
  | 0 => []
  | q + 1 => ins (K q) (V q) (gv K V q)

theorem mem_ins {α β : Type} [DecidableEq α] {k : α} {v : β} {p : α × List β} : ∀ {L : List (α × List β)}, p ∈ ins k v L → (p.1 = k ∨ ∃ r ∈ L, r.1 = p.1) ∧ p.2 ≠ [] ∨ p ∈ L
  | [], h => by simp [ins] at h; subst h; simp
  | r :: R, h => by
    unfold ins at h
    split at h
    · next e =>
      rcases List.mem_cons.1 h with rfl | h
      · exact .inl ⟨.inl e, by simp⟩
      · exact .inr (List.mem_cons_of_mem _ h)
    · rcases List.mem_cons.1 h with rfl | h
      · exact .inr (by simp)
      · rcases mem_ins h with ⟨h1 | ⟨r', hr, h1⟩, h2⟩ | h1
        · exact .inl ⟨.inl h1, h2⟩
        · exact .inl ⟨.inr ⟨r', List.mem_cons_of_mem _ hr, h1⟩, h2⟩
        · exact .inr (List.mem_cons_of_mem _ h1)

theorem keys_ins {β : Type} {k j : Nat} {v : β} {L : List (Nat × List β)} (h : ∃ p ∈ ins k v L, p.1 = j) : j = k ∨ ∃ p ∈ L, p.1 = j := by
  obtain ⟨p, hp, rfl⟩ := h
  rcases mem_ins hp with ⟨h1 | ⟨r, hr, h1⟩, _⟩ | h1
  · exact .inl h1
  · exact .inr ⟨r, hr, h1⟩
  · exact .inr ⟨p, h1, rfl⟩

theorem gv_key {K : Nat → Nat} {V : Nat → Int} : ∀ {q j : Nat}, (∃ p ∈ gv K V q, p.1 = j) → ∃ i, i < q ∧ K i = j
  | 0, _, h => by simp [gv] at h
  | q + 1, j, h => by
    rcases keys_ins h with rfl | h
    · exact ⟨q, by omega, rfl⟩
    · obtain ⟨i, h1, h2⟩ := gv_key h
      exact ⟨i, by omega, h2⟩

theorem vals_ins {α β : Type} [DecidableEq α] {k : α} {v : β} (P : β → Prop) : ∀ {L : List (α × List β)}, (∀ p ∈ L, p.2 ≠ [] ∧ ∀ x ∈ p.2, P x) → P v → ∀ p ∈ ins k v L, p.2 ≠ [] ∧ ∀ x ∈ p.2, P x
  | [], _, hv, p, hp => by simp [ins] at hp; subst hp; simpa using hv
  | r :: R, h, hv, p, hp => by
    unfold ins at hp
    split at hp
    · rcases List.mem_cons.1 hp with rfl | hp
      · refine ⟨by simp, fun x hx => ?_⟩
        rcases List.mem_append.1 hx with hx | hx
        · exact (h r (by simp)).2 x hx
        · simp at hx; subst hx; exact hv
      · exact h p (List.mem_cons_of_mem _ hp)
    · rcases List.mem_cons.1 hp with rfl | hp
      · exact h _ (by simp)
      · exact vals_ins P (fun a ha => h a (List.mem_cons_of_mem _ ha)) hv p hp

theorem gv_vals {K : Nat → Nat} {V : Nat → Int} (P : Int → Prop) : ∀ {q : Nat}, (∀ i, i < q → P (V i)) → ∀ p ∈ gv K V q, p.2 ≠ [] ∧ ∀ x ∈ p.2, P x
  | 0, _, p, hp => by simp [gv] at hp
  | q + 1, h, p, hp => vals_ins P (gv_vals P (fun i hi => h i (by omega))) (h q (by omega)) p hp

/-- No group is longer than the rows are many; no more groups than rows. -/
theorem len_ins {α β : Type} [DecidableEq α] {k : α} {v : β} {N : Nat} : ∀ {L : List (α × List β)}, (∀ p ∈ L, p.2.length ≤ N) → ∀ p ∈ ins k v L, p.2.length ≤ N + 1
  | [], _, p, hp => by simp [ins] at hp; subst hp; simp
  | r :: R, h, p, hp => by
    unfold ins at hp
    split at hp
    · rcases List.mem_cons.1 hp with rfl | hp
      · have := h r (by simp)
        simp; omega
      · have := h p (List.mem_cons_of_mem _ hp)
        omega
    · rcases List.mem_cons.1 hp with rfl | hp
      · have := h p (by simp)
        omega
      · exact len_ins (fun a ha => h a (List.mem_cons_of_mem _ ha)) p hp

theorem ins_len {α β : Type} [DecidableEq α] {k : α} {v : β} : ∀ {L : List (α × List β)}, (ins k v L).length ≤ L.length + 1
  | [] => by simp [ins]
  | r :: R => by
    unfold ins
    split
    · simp
    · have := ins_len (k := k) (v := v) (L := R)
      simp; omega

theorem gv_len {K : Nat → Nat} {V : Nat → Int} : ∀ q : Nat, (∀ p ∈ gv K V q, p.2.length ≤ q) ∧ (gv K V q).length ≤ q
  | 0 => by simp [gv]
  | q + 1 => ⟨len_ins (gv_len q).1, by have := (gv_len (K := K) (V := V) q).2; have := ins_len (k := K q) (v := V q) (L := gv K V q); show (ins _ _ _).length ≤ _; omega⟩

theorem ins_map {α β γ δ : Type} [DecidableEq α] [DecidableEq γ] {f : α → γ} {g : β → δ} {k : α} {v : β} : ∀ {L : List (α × List β)}, (∀ p ∈ L, f p.1 = f k → p.1 = k) → ins (f k) (g v) (L.map fun p => (f p.1, p.2.map g)) = (ins k v L).map fun p => (f p.1, p.2.map g)
  | [], _ => by simp [ins]
  | r :: R, h => by
    have ih := ins_map (f := f) (g := g) (k := k) (v := v) (L := R) (fun p hp => h p (List.mem_cons_of_mem _ hp))
    by_cases e : r.1 = k
    · simp [ins, e]
    · have e' : ¬ f r.1 = f k := fun h' => e (h r (by simp) h')
      simp only [List.map_cons, ins, e, e', if_false]
      rw [ih]

theorem idxOf_inj {vs : List Int} {a b : Int} (ha : a ∈ vs) (hb : b ∈ vs) (h : vs.idxOf a = vs.idxOf b) : a = b := by
  rw [← (getD_idxOf ha).2, ← (getD_idxOf hb).2, h]

theorem gath_gv {K : Nat → Nat} {V : Nat → Int} {vs : List Int} : ∀ {q : Nat}, (∀ i, i < q → (K i : Int) ∈ vs) → gath (fun i => vs.idxOf (K i : Int)) (fun i => vs.idxOf (V i)) q = (gv K V q).map fun p => (vs.idxOf (p.1 : Int), p.2.map fun x => vs.idxOf x)
  | 0, _ => rfl
  | q + 1, h => by
    show ins _ _ (gath _ _ q) = (ins _ _ _).map _
    rw [gath_gv (fun i hi => h i (by omega))]
    exact ins_map (f := fun k : Nat => vs.idxOf (k : Int)) (g := fun x : Int => vs.idxOf x) (fun p hp e => by
      obtain ⟨i, hi, hk⟩ := gv_key ⟨p, hp, rfl⟩
      have := idxOf_inj (hk ▸ h i (by omega)) (h q (by omega)) e
      omega)

theorem gath_ext {kd vd kd' vd' : Nat → Nat} : ∀ {q : Nat}, (∀ i, i < q → kd i = kd' i ∧ vd i = vd' i) → gath kd vd q = gath kd' vd' q
  | 0, _ => rfl
  | q + 1, h => by
    show ins _ _ (gath _ _ q) = ins _ _ (gath _ _ q)
    rw [gath_ext (fun i hi => h i (by omega)), (h q (by omega)).1, (h q (by omega)).2]

/-- What the law wants of a group's values. -/
def WantOK (op rg : Int) (zs : List Int) (val : Int) : Prop :=
  (op = 0 → rg = -1 → val = zs.length) ∧ (op = 0 → rg = 1 → val = (distI zs : Nat)) ∧ (op = 1 → val ∈ zs ∧ ∀ z ∈ zs, val ≤ z) ∧ (op = 2 → val ∈ zs ∧ ∀ z ∈ zs, z ≤ val)

theorem getD_mem {vs : List Int} {b : Nat} (h : b < vs.length) : vs.getD b 0 ∈ vs := by
  rw [List.getD_eq_getElem?_getD, List.getElem?_eq_getElem h]
  simp

theorem map_back {vs zs : List Int} (h : ∀ z ∈ zs, z ∈ vs) : (zs.map fun x => vs.idxOf x).map (fun b => vs.getD b 0) = zs := by
  rw [List.map_map]
  conv => rhs; rw [← List.map_id zs]
  exact List.map_congr_left fun z hz => (getD_idxOf (h z hz)).2

theorem want_of_res {op rg : Int} {vs zs : List Int} {val : Int} (hz : ∀ z ∈ zs, z ∈ vs) (h : ResOK op rg vs (zs.map fun x => vs.idxOf x) val) : WantOK op rg zs val := by
  obtain ⟨h1, h2, h3⟩ := h
  have key : ∀ z ∈ zs, vs.getD (vs.idxOf z) 0 = z := fun z hz' => (getD_idxOf (hz z hz')).2
  refine ⟨fun a b => by simpa using h1 a b, fun a b => ?_, fun a => ?_, fun a => ?_⟩
  · rw [h2 a b, dist_map (f := fun b => vs.getD b 0), map_back hz]
    intro x hx y hy e
    obtain ⟨x', hx', rfl⟩ := List.mem_map.1 hx
    obtain ⟨y', hy', rfl⟩ := List.mem_map.1 hy
    simp only [key x' hx', key y' hy'] at e
    rw [e]
  · obtain ⟨b, hb, rfl, hm⟩ := h3 (.inl a)
    obtain ⟨z, hz', rfl⟩ := List.mem_map.1 hb
    rw [key z hz']
    refine ⟨hz', fun y hy => ?_⟩
    have := hm _ (List.mem_map.2 ⟨y, hy, rfl⟩)
    rw [key y hy, key z hz'] at this
    simp [befB, a] at this
    exact this
  · obtain ⟨b, hb, rfl, hm⟩ := h3 (.inr a)
    obtain ⟨z, hz', rfl⟩ := List.mem_map.1 hb
    rw [key z hz']
    refine ⟨hz', fun y hy => ?_⟩
    have := hm _ (List.mem_map.2 ⟨y, hy, rfl⟩)
    rw [key y hy, key z hz'] at this
    simp [befB, a] at this
    exact this

/-- What the tuples are, told by the rows' own values. -/
theorem tuples_ok {op rg : Int} {vs ext : List Int} {L : List GR} {Ts : List TR} {K : Nat → Nat} {V : Nat → Int} {n : Nat} {kd vd : Nat → Nat}
    (hK : ∀ i, i < n → (K i : Int) ∈ vs ∧ V i ∈ vs) (hd : ∀ i, i < n → kd i = vs.idxOf (K i : Int) ∧ vd i = vs.idxOf (V i)) (hL : L.map (fun g => (g.k, g.xs)) = gath kd vd n) (hT : TOK op rg vs (vs ++ ext) L Ts) :
    L.length = (gv K V n).length ∧ ∀ (j : Nat) (t : TR), Ts[j]? = some t → ∃ p : Nat × List Int, (gv K V n)[j]? = some p ∧ t.a < (vs ++ ext).length ∧ t.b < (vs ++ ext).length ∧ (vs ++ ext).getD t.a 0 = (p.1 : Int) ∧ WantOK op rg p.2 ((vs ++ ext).getD t.b 0) := by
  have e : L.map (fun g => (g.k, g.xs)) = (gv K V n).map fun p => (vs.idxOf (p.1 : Int), p.2.map fun x => vs.idxOf x) := by
    rw [hL, gath_ext hd, gath_gv (fun i hi => (hK i hi).1)]
  refine ⟨by simpa using congrArg List.length e, fun j t ht => ?_⟩
  obtain ⟨g, h1, h2, h3, h4⟩ := hT j t ht
  have e' := congrArg (fun l => l[j]?) e
  simp only [List.getElem?_map, h1, Option.map_some] at e'
  obtain ⟨p, hp, e2⟩ : ∃ p, (gv K V n)[j]? = some p ∧ (g.k, g.xs) = (vs.idxOf (p.1 : Int), p.2.map fun x => vs.idxOf x) := by
    cases hp : (gv K V n)[j]? with
    | none => rw [hp] at e'; simp at e'
    | some p => rw [hp] at e'; simp at e'; exact ⟨p, rfl, by simp [e']⟩
  have hpm : p ∈ gv K V n := List.mem_of_getElem? hp
  simp only [Prod.mk.injEq] at e2
  have hk : (p.1 : Int) ∈ vs := by
    obtain ⟨i, hi, hk⟩ := gv_key ⟨p, hpm, rfl⟩
    exact hk ▸ (hK i hi).1
  have hlt := (getD_idxOf hk).1
  refine ⟨p, hp, by rw [h2, e2.1]; simp; omega, h3, ?_, ?_⟩
  · rw [h2, e2.1]
    have := (getD_idxOf hk).2
    rw [List.getD_eq_getElem?_getD] at this ⊢
    rw [List.getElem?_append_left hlt]
    exact this
  · rw [e2.2] at h4
    exact want_of_res (gv_vals (fun x => x ∈ vs) (fun i hi => (hK i hi).2) p hpm).2 h4

/-! ### the least, the greatest -/
theorem want_min {rg : Int} {zs : List Int} {val m : Int} (h : WantOK 1 rg zs val) (h1 : m ∈ zs) (h2 : ∀ z ∈ zs, m ≤ z) : val = m := by
  obtain ⟨a, b⟩ := h.2.2.1 rfl
  have := h2 _ a
  have := b _ h1
  omega

theorem want_max {rg : Int} {zs : List Int} {val m : Int} (h : WantOK 2 rg zs val) (h1 : m ∈ zs) (h2 : ∀ z ∈ zs, z ≤ m) : val = m := by
  obtain ⟨a, b⟩ := h.2.2.2 rfl
  have := h2 _ a
  have := b _ h1
  omega

/-! ### the model's table -/
/-- Where key k stands among the keys: 0: nowhere. -/
def IdxOK (ks : List Nat) (c : Nat → Nat) : Prop := ks.Nodup ∧ (∀ k ∈ ks, k < 256) ∧ ∀ k, k < 256 → (c k = 0 ∧ k ∉ ks) ∨ (c k ≠ 0 ∧ ks[c k - 1]? = some k)

theorem IdxOK.miss {ks : List Nat} {c : Nat → Nat} {k : Nat} (h : IdxOK ks c) (hk : k < 256) (h0 : c k = 0) : k ∉ ks ∧ IdxOK (ks ++ [k]) (fun x => if x = k then ks.length + 1 else c x) := by
  obtain ⟨h1, h2, h3⟩ := h
  have hn : k ∉ ks := by
    rcases h3 k hk with h | h
    · exact h.2
    · exact absurd h0 h.1
  refine ⟨hn, ?_, ?_, fun x hx => ?_⟩
  · rw [List.nodup_append]
    exact ⟨h1, by simp, fun a ha b hb => by simp at hb; subst hb; rintro rfl; exact hn ha⟩
  · intro x hx
    rcases List.mem_append.1 hx with hx | hx
    · exact h2 x hx
    · simp at hx; omega
  · by_cases e : x = k
    · subst e
      exact .inr (by simp)
    · rcases h3 x hx with ⟨a, b⟩ | ⟨a, b⟩
      · exact .inl (by simp [e, a, b])
      · refine .inr ⟨by simpa [e] using a, ?_⟩
        simp only [e, if_false]
        rw [List.getElem?_append_left (List.getElem?_eq_some_iff.1 b).1]
        exact b

theorem ins_new {k : Nat} {v : Int} {G : List (Nat × List Int)} (h : k ∉ G.map Prod.fst) : ins k v G = G ++ [(k, [v])] :=
  ins_miss (fun p hp e => h (List.mem_map.2 ⟨p, hp, e⟩))

theorem ins_old {k : Nat} {v : Int} : ∀ {G : List (Nat × List Int)} {j : Nat}, (G.map Prod.fst).Nodup → (G.map Prod.fst)[j]? = some k → (ins k v G).map Prod.fst = G.map Prod.fst ∧ (ins k v G).map Prod.snd = (G.map Prod.snd).set j ((G.map Prod.snd).getD j [] ++ [v])
  | [], _, _, h => by simp at h
  | p :: G, 0, hn, h => by
    simp at h
    subst h
    simp [ins]
  | p :: G, j + 1, hn, h => by
    have hn' : (G.map Prod.fst).Nodup := (List.nodup_cons.1 hn).2
    have h' : (G.map Prod.fst)[j]? = some k := by simpa using h
    have hne : ¬ p.1 = k := by
      rintro rfl
      exact (List.nodup_cons.1 hn).1 (List.mem_of_getElem? h')
    obtain ⟨a, b⟩ := ins_old (v := v) hn' h'
    simp only [ins, hne, if_false, List.map_cons, a, b, true_and]
    simp
end Go.Proofs.YbulkeifqGreat
