/-
  HOW MANY DIFFERENT MEMBERS: counted over the sorted list. No Go text in sight.
-/
import Derived.Test.YbulkeifqGreatAdd
namespace Go.Proofs.YbulkeifqGreat
set_option linter.unusedVariables false

def distI : List Int → Nat
  | [] => 0
  | x :: r => (if x ∈ r then 0 else 1) + distI r

theorem distI_perm {l l' : List Int} (h : l.Perm l') : distI l = distI l' := by
  induction h with
  | nil => rfl
  | cons x h ih => simp only [distI, ih, h.mem_iff]
  | swap x y l =>
    simp only [distI, List.mem_cons]
    by_cases e : x = y
    · subst e
      simp
    · have e' : ¬ y = x := fun h => e h.symm
      by_cases h1 : x ∈ l <;> by_cases h2 : y ∈ l <;> simp [e, e', h1, h2] <;> omega
  | trans _ _ i1 i2 => exact i1.trans i2

/-- One more wherever a member differs from the one ahead of it. -/
def runs : List Int → Nat
  | [] => 0
  | [_] => 1
  | x :: y :: r => (if x = y then 0 else 1) + runs (y :: r)

theorem runs_sorted : ∀ {l : List Int}, l.Pairwise (· ≤ ·) → runs l = distI l
  | [], _ => rfl
  | [x], _ => by simp [runs, distI]
  | x :: y :: r, h => by
    have h1 := (List.pairwise_cons.1 h).1
    have h2 := (List.pairwise_cons.1 h).2
    have h3 := (List.pairwise_cons.1 h2).1
    rw [runs, runs_sorted h2]
    show _ = (if x ∈ y :: r then 0 else 1) + distI (y :: r)
    have : x ∈ y :: r ↔ x = y := by
      constructor
      · intro hx
        rcases List.mem_cons.1 hx with e | hx
        · exact e
        · have := h3 x hx
          have := h1 y (by simp)
          omega
      · rintro rfl
        simp
    simp only [this]

theorem runs_snoc (x : Int) : ∀ l : List Int, runs (l ++ [x]) = runs l + (if l.getLast? = some x then 0 else 1)
  | [] => by simp [runs]
  | [a] => by simp [runs]; omega
  | a :: b :: r => by
    have ih := runs_snoc x (b :: r)
    show (if a = b then 0 else 1) + runs (b :: r ++ [x]) = _
    rw [ih]
    have e : (a :: b :: r).getLast? = (b :: r).getLast? := by simp [List.getLast?_cons_cons]
    rw [e]
    simp only [runs]
    omega

/-- The loop's count after i rounds. -/
def cntTo (c : List Int) : Nat → Nat
  | 0 => 0
  | i + 1 => cntTo c i + (if i = 0 ∨ c.getD i 0 ≠ c.getD (i - 1) 0 then 1 else 0)

theorem cntTo_runs (c : List Int) : ∀ i, i ≤ c.length → cntTo c i = runs (c.take i)
  | 0, _ => by simp [cntTo, runs]
  | i + 1, h => by
    have hi : i < c.length := by omega
    rw [cntTo, cntTo_runs c i (by omega), List.take_succ_eq_append_getElem hi, runs_snoc]
    have hg : c.getD i 0 = c[i] := by rw [List.getD_eq_getElem?_getD, List.getElem?_eq_getElem hi]; rfl
    rw [hg]
    congr 1
    cases i with
    | zero => simp
    | succ j =>
      have hj : j < c.length := by omega
      have hl : (c.take (j + 1)).getLast? = some c[j] := by
        rw [List.take_succ_eq_append_getElem hj]
        exact List.getLast?_concat
      have hgj : c.getD (j + 1 - 1) 0 = c[j] := by rw [List.getD_eq_getElem?_getD, Nat.add_sub_cancel, List.getElem?_eq_getElem hj]; rfl
      rw [hl, hgj]
      by_cases e : c[j + 1] = c[j]
      · simp [e]
      · have e' : ¬ c[j] = c[j + 1] := fun h => e h.symm
        simp [e, e']

theorem cntTo_dist {c zs : List Int} (hs : c.Pairwise (· ≤ ·)) (hp : c.Perm zs) : cntTo c c.length = distI zs := by
  rw [cntTo_runs c _ (Nat.le_refl _), List.take_length, runs_sorted hs, distI_perm hp]

/-- The ids' number is the values' number. -/
theorem dist_map {f : Nat → Int} : ∀ {xs : List Nat}, (∀ x ∈ xs, ∀ y ∈ xs, f x = f y → x = y) → dist xs = distI (xs.map f)
  | [], _ => rfl
  | x :: r, h => by
    have ih := dist_map (f := f) (xs := r) (fun a ha b hb => h a (by simp [ha]) b (by simp [hb]))
    simp only [dist, List.map_cons, distI, ih]
    have : f x ∈ r.map f ↔ x ∈ r := by
      constructor
      · intro hx
        obtain ⟨y, hy, e⟩ := List.mem_map.1 hx
        rw [← h y (by simp [hy]) x (by simp) e]
        exact hy
      · exact fun hx => List.mem_map.2 ⟨x, hx, rfl⟩
    simp only [this]
end Go.Proofs.YbulkeifqGreat
