/-
  THE PROOF OF 'Rows.LawS6724AWholeSaid': the given shell, its walk filled.
-/
import Derived.Test.YbulkeifqGreatRows
import Derived.Test.YbulkeifqGreatLawWalk
import Derived.WalkKit
import Derived.ProofKit
import Derived.OpenShut
import Derived.ShutString
import Derived.ChangeOld
import Derived.Below
import Derived.Deep.SlicePairs
namespace Go.Proofs.YbulkeifqGreat.lawS6724AWhole
open Go.ChangeShapes Go.WideShapes Go.ChangeAt Go.RowKit
set_option linter.unusedVariables false

theorem own : ownKnob Ybaz.prog.godebug = none := by kernel_rfl
theorem cells34 : Ybaz.prog.cellsOf 34 = 2 := by kernel_rfl
theorem cells5 : Ybaz.prog.cellsOf 5 = 1 := by kernel_rfl

/-- What the walk is told of the rows: they are none; or they lie two cells each, K and V, behind an address. -/
def IsRows (w : World) (a : Option Addr) (len cap : Nat) (K : Nat → Nat) (V : Nat → Int) : Prop :=
  len ≤ cap ∧ (len = 0 ∨ ∃ b off, a = some ⟨b, off, none⟩ ∧ ∀ i, i < len → w.cell? ⟨b, off + i * 2, none⟩ = some (.int .u8 (K i)) ∧ w.cell? ⟨b, off + i * 2 + 1, none⟩ = some (.int .i64 (V i)) ∧ K i < 256 ∧ (Lit.int .i64 (V i)).wf = true)

set_option maxRecDepth 100000 in
set_option maxHeartbeats 1000000 in
theorem walk_big (a0 : Option Addr) (len cap : Nat) (op stop : Int) (w : World) (h : 1048576 < len) :
    Calls Ybaz.prog 3 #[.slice a0 len cap, .int .u8 op, .int .u8 stop] w fun e w' => e = .returned (.bool true) ∧ Below w.heap.size w w' := by
  have h' : (1048576 : Int) < (len : Int) := by omega
  go_enter Ybaz.func3, Ybaz.ntmps3
  go_wp2
  go_ret
  exact ⟨rfl, Below.refl _ _⟩

theorem walk (a0 : Option Addr) (len cap : Nat) (K : Nat → Nat) (V : Nat → Int) (op stop : Int) (w : World) (h0 : IsRows w a0 len cap K V) (h1 : (Lit.int .u8 op).wf = true) (h2 : (Lit.int .u8 stop).wf = true) :
    Calls Ybaz.prog 3 #[.slice a0 len cap, .int .u8 op, .int .u8 stop] w fun e w' => e = .returned (.bool true) ∧ Below w.heap.size w w' := by
  by_cases hbig : 1048576 < len
  · exact walk_big a0 len cap op stop w hbig
  · obtain ⟨o1, o2⟩ := bounds_u8 h1
    obtain ⟨s1, s2⟩ := bounds_u8 h2
    obtain ⟨op', rfl⟩ : ∃ m : Nat, op = (m : Int) := ⟨op.toNat, by omega⟩
    obtain ⟨st', rfl⟩ : ∃ m : Nat, stop = (m : Int) := ⟨stop.toNat, by omega⟩
    obtain ⟨hc, h0 | ⟨b, off, rfl, h0⟩⟩ := h0
    · exact law_any (b := 0) (off := 0) (K := K) (V := V) (fun h => by omega) (fun i hi => by omega) (fun i hi => by omega) (fun i hi => by omega) (by omega) (by omega) (by omega) hc
    · exact law_any (fun _ => rfl) (fun i hi => ⟨(h0 i hi).1, (h0 i hi).2.1⟩) (fun i hi => (h0 i hi).2.2.1) (fun i hi => (h0 i hi).2.2.2) (by omega) (by omega) (by omega) hc

set_option maxRecDepth 100000 in
theorem lifted (os : Os) (started : os.Started) (H : Type) (enc : TypeId × Value → H) :
    ReturnsInHanded {} Ybaz.checked os 3 .any (Rows.lawS6724AWholeSpec.pre6 enc Ybaz.prog Ybaz.f3 Rows.lawS6724AWholeRow.domain false) (Rows.lawS6724AWholeSpec.post enc Ybaz.prog Ybaz.f3 false true false false) := by
  refine returnsInHanded_of_change (C := Ybaz.checked) own started (by kernel_rfl) Ybaz.func3
    (ChangeSpec.witness6 (enc := enc) (C := Ybaz.checked) false ⟨#[], #[.slice none 0 0, .int .u8 0, .int .u8 0], []⟩ 8 (by kernel_rfl) (by kernel_rfl) (by kernel_rfl) (by kernel_rfl)) ?_
  intro W base args ds gs before hval0 hW hcnd _
  have hval : ∀ (j : Nat) t v, Ybaz.f3.params[j]? = some t → args[j]? = some v → Value.okWide Ybaz.prog W .any base t v := hval0
  have hW' := hW
  obtain ⟨p, q, hA0, hV, rfl, hfz, hnd⟩ := hW
  have hA : DataW.TrodAll enc Ybaz.prog W 0 (fun _ => true) true Ybaz.f3.params.toList args.toList ds p := hA0
  rw [Ybaz.params3] at hA hval
  obtain ⟨v0, vs0, d0, ds0, p0, q0, hargs, rfl, rfl, h0, r0⟩ := trodAll_cons hA
  obtain ⟨v1, vs1, d1, ds1, p1, q1, rfl, rfl, rfl, h1, r1⟩ := trodAll_cons r0
  obtain ⟨v2, vs2, d2, ds2, p2, q2, rfl, rfl, rfl, h2, r2⟩ := trodAll_cons r1
  obtain ⟨rfl, rfl, rfl⟩ := trodAll_nil r2
  obtain rfl : args = #[v0, v1, v2] := by cases args; simp_all
  obtain ⟨rfl, rfl⟩ := trodVars_none hV
  obtain ⟨a0, len0, cap0, rfl⟩ := okWide_slice Ybaz.underlying22 (hval 0 22 v0 rfl rfl)
  have k0 := h0
  have lt0 : ∀ x ∈ p0, x.block < W.heap.size := by obtain ⟨m, hm⟩ := k0; exact DataW.trod_lt m _ _ _ hm
  obtain ⟨K, V, w0⟩ : ∃ K V, IsRows W a0 len0 cap0 K V := by
    obtain ⟨fuel, hf⟩ := h0
    rcases Go.Deep.open_slice_pairs Ybaz.underlying22 Ybaz.underlying34 cells34 rfl rfl cells5 cells2 hf with ⟨hcs, _⟩ | ⟨x, l, c, m, nn, V0, V1, D0, D1, P0, P1, hcs, _, hl, _, hm, _, hx⟩
    · simp [Value.cells] at hcs
      obtain ⟨rfl, rfl, rfl⟩ := hcs
      exact ⟨fun _ => 0, fun _ => 0, Nat.le_refl _, .inl rfl⟩
    · simp [Value.cells] at hcs
      obtain ⟨rfl, rfl, rfl⟩ := hcs
      have hlm : len0 ≤ m := by rw [hm]; split <;> omega
      refine ⟨fun i => (intOf (V0 i)).toNat, fun i => intOf (V1 i), hl, ?_⟩
      by_cases hz : len0 = 0
      · exact .inl hz
      · obtain ⟨b, off, spot⟩ := x
        have hspot : spot = none := by simpa [Addr.add] using World.cell?_spot (hx 0 (by omega)).1
        subst hspot
        refine .inr ⟨b, off, rfl, fun i hi => ?_⟩
        obtain ⟨e0, e1, t0, t1⟩ := hx i (by omega)
        obtain ⟨z0, y0, _, wf0⟩ := DataW.trod_int Ybaz.underlying5 t0
        obtain ⟨z1, y1, _, wf1⟩ := DataW.trod_int Ybaz.underlying2 t1
        simp at y0 y1
        rw [Go.WideShapes.add_plain] at e0 e1
        obtain ⟨g1, g2⟩ := bounds_u8 wf0
        rw [y0] at e0
        rw [y1] at e1
        simp only [y0, y1, intOf]
        have hz0 : ((z0.toNat : Nat) : Int) = z0 := by omega
        rw [hz0]
        exact ⟨e0, e1, by omega, wf1⟩
  obtain ⟨a1, rfl, rfl, rfl, w1⟩ := open_int Ybaz.underlying5 (hval 1 5 v1 rfl rfl) h1
  obtain ⟨a2, rfl, rfl, rfl, w2⟩ := open_int Ybaz.underlying5 (hval 2 5 v2 rfl rfl) h2
  clear hA0 hval0
  refine (walk a0 len0 cap0 K V a1 a2 W w0 w1 w2).mono fun e W' ⟨he, bel⟩ => ?_
  subst he
  exact ⟨_, rfl, _, _, _, [], _, [], hW', trodAll_mk1 (shut_bool Ybaz.underlying4 _), (trodAll_cons_mk (Below.trod laidOut (by kernel_rfl) (of_decide_eq_true (by kernel_rfl)) k0 bel lt0) (trodAll_cons_mk (shut_int Ybaz.underlying5 w1) (trodAll_cons_mk (shut_int Ybaz.underlying5 w2) trodAll_mk0))), rfl, bel.frame _, fun h => by cases h⟩

theorem over : Rows.lawS6724AWholeRow.holds Ybaz.pinned (OpenSpec.ofChange Rows.lawS6724AWholeSpec) :=
  OpenClaim.holds_of_wide 3 Ybaz.f3 rfl rfl rfl rfl rfl rfl rfl ⟨rfl, rfl, rfl, rfl, rfl⟩ rfl rfl rfl rfl rfl (by kernel_rfl) Ybaz.func3 (by kernel_rfl)
    (of_decide_eq_true (by kernel_rfl)) (by unfold Func.isWrapper; first | (rw [if_pos (by decide +kernel)]; kernel_rfl) | (rw [if_neg (by decide +kernel)]; exact ⟨rfl, rfl⟩))
    (fun os started H enc _ => lifted os started H enc)

/-- THE STATEMENT -/
theorem proved : Rows.LawS6724AWholeSaid := over
end Go.Proofs.YbulkeifqGreat.lawS6724AWhole
