/-
  THE GROUPS, in the order in which they were made; the map of them; what the closure of 'aggregate' reads.
-/
import Derived.Test.YbulkeifqGreatFillAny
namespace Go.Proofs.YbulkeifqGreat
open Go.RowKit Go.Maps
set_option linter.unusedVariables false

/-! ### plain: a row goes to its key's group -/
def ins {α β : Type} [DecidableEq α] (k : α) (v : β) : List (α × List β) → List (α × List β)
  | [] => [(k, [v])]
  | p :: r => if p.1 = k then (p.1, p.2 ++ [v]) :: r else p :: ins k v r

theorem ins_miss {α β : Type} [DecidableEq α] {k : α} {v : β} : ∀ {L : List (α × List β)}, (∀ p ∈ L, p.1 ≠ k) → ins k v L = L ++ [(k, [v])]
  | [], _ => rfl
  | p :: r, h => by
    unfold ins
    rw [if_neg (h p (by simp)), ins_miss (fun q hq => h q (by simp [hq]))]
    rfl

theorem ins_hit {α β : Type} [DecidableEq α] {k : α} {v : β} {xs : List β} {C : List (α × List β)} : ∀ {A : List (α × List β)}, (∀ p ∈ A, p.1 ≠ k) → ins k v (A ++ (k, xs) :: C) = A ++ (k, xs ++ [v]) :: C
  | [], _ => by simp [ins]
  | p :: r, h => by
    show ins k v (p :: (r ++ (k, xs) :: C)) = _
    unfold ins
    rw [if_neg (h p (by simp)), ins_hit (fun q hq => h q (by simp [hq]))]
    rfl

/-- A list, parted at its first group of key k. -/
theorem part_key {α : Type} (f : α → Nat) (k : Nat) : ∀ L : List α, (∀ g ∈ L, f g ≠ k) ∨ ∃ A g C, L = A ++ g :: C ∧ f g = k ∧ ∀ a ∈ A, f a ≠ k
  | [] => .inl (by simp)
  | g :: r => by
    by_cases h : f g = k
    · exact .inr ⟨[], g, r, rfl, h, by simp⟩
    · rcases part_key f k r with h' | ⟨A, g', C, rfl, h1, h2⟩
      · exact .inl (by intro x hx; rcases List.mem_cons.1 hx with rfl | hx; exact h; exact h' x hx)
      · exact .inr ⟨g :: A, g', C, rfl, h1, by intro x hx; rcases List.mem_cons.1 hx with rfl | hx; exact h; exact h2 x hx⟩

/-- A group, told by where it lies and what it holds. -/
structure GR where
  gb : Nat
  lo : Nat
  hi : Nat
  k : Nat
  xs : List Nat

/-- The groups lie one behind the other, from lo0 on, below top. -/
def Grps (w : World) (op rg : Int) (vs : List Int) : Nat → Nat → List GR → Prop
  | lo0, top, [] => lo0 ≤ top
  | lo0, top, g :: r => lo0 ≤ g.lo ∧ g.lo ≤ g.hi ∧ Grp w g.lo g.hi op rg vs g.gb g.k g.xs ∧ Grps w op rg vs g.hi top r

theorem Grps.le {w : World} {op rg : Int} {vs : List Int} : ∀ {L : List GR} {lo0 top : Nat}, Grps w op rg vs lo0 top L → lo0 ≤ top
  | [], _, _, h => h
  | g :: r, _, _, h => by
    have := Grps.le h.2.2.2
    have := h.1
    have := h.2.1
    omega

theorem Grps.keep {w w' : World} {op rg : Int} {vs : List Int} {B : Nat} {S : Nat → Obj → Prop} (c : Ch B S w w') : ∀ {L : List GR} {lo0 top : Nat}, Grps w op rg vs lo0 top L → (∀ k o, lo0 ≤ k → k < top → GTag o → ¬ S k o) → Grps w' op rg vs lo0 top L
  | [], _, _, h, _ => h
  | g :: r, lo0, top, h, hs => by
    have h4 := Grps.le h.2.2.2
    have h1 := h.1
    have h2 := h.2.1
    exact ⟨h1, h2, h.2.2.1.keep c (fun k o a b => hs k o (by omega) (by omega)), Grps.keep c h.2.2.2 (fun k o a b => hs k o (by omega) b)⟩

theorem Grps.split {w : World} {op rg : Int} {vs : List Int} {g : GR} {C : List GR} : ∀ {A : List GR} {lo0 top : Nat}, Grps w op rg vs lo0 top (A ++ g :: C) ↔ Grps w op rg vs lo0 g.lo A ∧ g.lo ≤ g.hi ∧ Grp w g.lo g.hi op rg vs g.gb g.k g.xs ∧ Grps w op rg vs g.hi top C
  | [], lo0, top => Iff.rfl
  | a :: A, lo0, top => by
    show (lo0 ≤ a.lo ∧ a.lo ≤ a.hi ∧ Grp w a.lo a.hi op rg vs a.gb a.k a.xs ∧ Grps w op rg vs a.hi top (A ++ g :: C)) ↔ (lo0 ≤ a.lo ∧ a.lo ≤ a.hi ∧ Grp w a.lo a.hi op rg vs a.gb a.k a.xs ∧ Grps w op rg vs a.hi g.lo A) ∧ _
    rw [Grps.split (A := A)]
    constructor
    · rintro ⟨a1, a2, a3, a4, a5⟩; exact ⟨⟨a1, a2, a3, a4⟩, a5⟩
    · rintro ⟨⟨a1, a2, a3, a4⟩, a5⟩; exact ⟨a1, a2, a3, a4, a5⟩

theorem Grps.top {w : World} {op rg : Int} {vs : List Int} {top' : Nat} : ∀ {L : List GR} {lo0 top : Nat}, Grps w op rg vs lo0 top L → top ≤ top' → Grps w op rg vs lo0 top' L
  | [], _, _, h, ht => Nat.le_trans h ht
  | g :: r, _, _, h, ht => ⟨h.1, h.2.1, h.2.2.1, h.2.2.2.top ht⟩

theorem Grps.lo {w : World} {op rg : Int} {vs : List Int} : ∀ {L : List GR} {lo0 lo1 top : Nat}, Grps w op rg vs lo0 top L → lo1 ≤ lo0 → Grps w op rg vs lo1 top L
  | [], _, _, _, h, ht => Nat.le_trans ht h
  | g :: r, _, _, _, h, ht => ⟨Nat.le_trans ht h.1, h.2.1, h.2.2.1, h.2.2.2⟩

/-! ### the map of the groups -/
/-- How a pointer to a group reads. -/
def Rg (v : Value) : Option (DataW Unit × List MemPlace) :=
  match v with
  | .pointer none => some (.nil, [])
  | .pointer (some ⟨b, 0, none⟩) => some (.lit (.int .i64 b), [])
  | _ => none

theorem Rg_nil {v : Value} {ps : List MemPlace} (h : Rg v = some (.nil, ps)) : v = .pointer none := by
  unfold Rg at h
  split at h <;> first | rfl | (simp at h)

theorem Rg_some {v : Value} {b : Nat} {ps : List MemPlace} (h : Rg v = some (.lit (.int .i64 b), ps)) : v = .pointer (some ⟨b, 0, none⟩) := by
  unfold Rg at h
  split at h
  · simp at h
  · simp at h
    obtain ⟨h1, _⟩ := h
    have h2 := Int.ofNat.inj h1
    subst h2
    rfl
  · simp at h

def kNums (k : Nat) : List Int := le32 k ++ le32 0
def kLit (k : Nat) : Lit := .string (strOfNums (kNums k)).data.toList

theorem kLit_key (k : Nat) : WideAt.IsKeyLit (kLit k) := trivial

theorem byte_inj {a b : Int} (ha : 0 ≤ a ∧ a < 256) (hb : 0 ≤ b ∧ b < 256) (h : UInt8.ofNat a.toNat = UInt8.ofNat b.toNat) : a = b := by
  have := congrArg UInt8.toNat h
  simp at this
  omega

theorem kLit_inj {a b : Nat} (ha : a < 4294967296) (hb : b < 4294967296) (h : kLit a = kLit b) : a = b := by
  simp only [kLit, Lit.string.injEq, strOfNums_data, kNums, le32, List.map_cons, List.map_nil, List.cons_append, List.nil_append, List.cons.injEq] at h
  obtain ⟨h0, h1, h2, h3, _⟩ := h
  have e0 := byte_inj (by omega) (by omega) h0
  have e1 := byte_inj (by omega) (by omega) h1
  have e2 := byte_inj (by omega) (by omega) h2
  have e3 := byte_inj (by omega) (by omega) h3
  omega

/-- What stands at a key: its group's block. -/
def MapOK (D : DataW Unit) (L : List GR) : Prop :=
  ∀ k, k < 4294967296 → ((∀ g ∈ L, g.k ≠ k) → D.atKey (kLit k) .nil = .nil) ∧ ∀ A g C, L = A ++ g :: C → g.k = k → (∀ a ∈ A, a.k ≠ k) → D.atKey (kLit k) .nil = .lit (.int .i64 g.gb)

theorem mapOK_empty : MapOK (.map []) [] := fun k _ => ⟨fun _ => rfl, fun A g C h => by simp at h⟩

theorem mapOK_put {D : DataW Unit} {L : List GR} (h : MapOK D L) (hD : Maps.IsMap D) {g : GR} (hk : g.k < 4294967296) (hn : ∀ a ∈ L, a.k ≠ g.k) : MapOK (D.put (kLit g.k) (.lit (.int .i64 g.gb))) (L ++ [g]) := by
  intro k hk'
  by_cases e : k = g.k
  · subst e
    refine ⟨fun h' => absurd rfl (h' g (by simp)), fun A g' C he hgk hA => ?_⟩
    rw [Maps.atKey_put_same hD (kLit_key _)]
    rcases List.append_eq_append_iff.1 he with ⟨zs, rfl, h2⟩ | ⟨bs, rfl, h2⟩
    · cases zs with
      | nil => simp at h2; rw [h2.1]
      | cons x r => simp at h2
    · cases bs with
      | nil => simp at h2; rw [h2.1]
      | cons x r =>
        simp at h2
        obtain ⟨rfl, _⟩ := h2
        exact absurd hgk (hn _ (by simp))
  · have hne : kLit k ≠ kLit g.k := fun h' => e (kLit_inj hk' hk h')
    obtain ⟨h1, h2⟩ := h k hk'
    refine ⟨fun h' => ?_, fun A g' C he hgk hA => ?_⟩
    · rw [Maps.atKey_put_other hne]
      exact h1 (fun a ha => h' a (by simp [ha]))
    · rw [Maps.atKey_put_other hne]
      rcases List.append_eq_append_iff.1 he with ⟨zs, rfl, h3⟩ | ⟨bs, rfl, h3⟩
      · cases zs with
        | nil => simp at h3; exact absurd (by rw [← hgk, ← h3.1]) e
        | cons x r => simp at h3
      · cases bs with
        | nil => simp at h3; exact absurd (by rw [← hgk, ← h3.1]) e
        | cons x r =>
          simp at h3
          obtain ⟨rfl, _⟩ := h3
          exact h2 A _ r rfl hgk hA

/-- The groups' keys and blocks alone count. -/
theorem mapOK_turn {D : DataW Unit} {A C : List GR} {g g' : GR} (h : MapOK D (A ++ g :: C)) (hk : g'.k = g.k) (hb : g'.gb = g.gb) : MapOK D (A ++ g' :: C) := by
  have key : ∀ (X Y : List GR), (∀ x ∈ X ++ g' :: Y, ∃ y ∈ X ++ g :: Y, y.k = x.k) := by
    intro X Y x hx
    simp at hx
    rcases hx with hx | rfl | hx
    · exact ⟨x, by simp [hx], rfl⟩
    · exact ⟨g, by simp, hk.symm⟩
    · exact ⟨x, by simp [hx], rfl⟩
  intro k hk'
  obtain ⟨h1, h2⟩ := h k hk'
  refine ⟨fun hn => h1 (fun a ha => ?_), fun A' q C' he hq hA => ?_⟩
  · simp at ha
    rcases ha with ha | rfl | ha
    · exact hn a (by simp [ha])
    · rw [← hk]; exact hn g' (by simp)
    · exact hn a (by simp [ha])
  · rcases List.append_eq_append_iff.1 he with ⟨zs, rfl, h3⟩ | ⟨bs, rfl, h3⟩
    · cases zs with
      | nil =>
        simp at h3
        obtain ⟨rfl, rfl⟩ := h3
        rw [hb]
        exact h2 A g C rfl (by rw [← hk]; exact hq) (fun a ha => hA a (by simp [ha]))
      | cons x r =>
        simp at h3
        obtain ⟨rfl, rfl⟩ := h3
        exact h2 (A ++ g :: r) q C' (by simp) hq (fun a ha => by
          simp at ha
          rcases ha with ha | rfl | ha
          · exact hA a (by simp [ha])
          · rw [← hk]; exact hA g' (by simp)
          · exact hA a (by simp [ha]))
    · cases bs with
      | nil =>
        simp at h3
        obtain ⟨rfl, rfl⟩ := h3
        rw [hb]
        exact h2 A' g C' (by simp) (by rw [← hk]; exact hq) hA
      | cons x r =>
        simp at h3
        obtain ⟨rfl, rfl⟩ := h3
        exact h2 A' _ (r ++ g :: C) (by simp) hq hA
end Go.Proofs.YbulkeifqGreat
