/-
  THE PROOF OF 'Rows.LawS6728BWholeSaid' (the row) AND OF 'Rows.LawS6728BWholeCardSaid' (the tied card).
-/
import Derived.Test.YbulkeihuDoorRows
import Derived.Test.YbulkeihuDoorTie
import Derived.Test.YbulkeihuDoorCards
import Derived.Test.YbulkeihuDoorLawWalk
import Derived.ProofKit
import Derived.LaidMore
import Derived.OpenShut
import Derived.ShutString
import Derived.Stop.Joined
import Derived.Stop.LaidErr
import Derived.WalkSmall
import Derived.SevenTiedAt
namespace Go.Proofs.YbulkeihuDoor
open Go.ChangeShapes Go.WideShapes Go.ChangeAt Go.WideMaps Go.WideElems Go.RowKit
open Go.ChangeMaps (open_string shut_string)
set_option linter.unusedVariables false

theorem own : ownKnob Ybad.prog.godebug = none := by kernel_rfl
theorem cells43 : Ybad.prog.cellsOf 43 = 1 := by kernel_rfl
theorem cells9 : Ybad.prog.cellsOf 9 = 1 := by kernel_rfl

/-- The listed variable's name; the name of its dynamic type; both off the given row. -/
def vname : String := Rows.lawS6728BWholeSpec.vars.headD ""
def tname : String := match (Rows.laid_example_com_unfussy_lifecycle_unfussy_lifecycle_errStopAsked : DataW Unit) with | .iface n _ => n | _ => ""
def text : List UInt8 := match (Rows.laid_example_com_unfussy_lifecycle_unfussy_lifecycle_errStopAsked : DataW Unit) with | .iface _ (.ptr (.agg [.lit (.string t)])) => t | _ => []

theorem gAsked : Ybad.prog.globalNamed vname = some 0 := by kernel_rfl
theorem tAsked : (Ybad.prog.globals[0]?).map (·.type) = some 23 := by kernel_rfl
theorem star : tname = "*" ++ "errors.errorString" := by decide
theorem row41 (u : TypeId) (h : Ybad.prog.typeName? 3 u = some tname) : u = 41 :=
  typeName_ptr_named (nm := "errors.errorString") (by rw [← star]; kernel_rfl) (by kernel_rfl) (by decide) u (by rw [← star]; exact h)

/-- The door's own heap meets the condition. -/
theorem door_met (os : Os) (args : Array Value) : laidMetH Ybad.prog Rows.lawS6728BWholeRow.laid ((World.doorLaid Ybad.prog 28 os).forCall (fun _ _ => 0) ⟨#[], args, []⟩).memory :=
  laidMetH_of_parts3 (fuel := 8) (laidMet_of_run' 8 (by kernel_rfl) (by kernel_rfl)) (by kernel_rfl) (by kernel_rfl)

/-- What the condition gives the walk: the variable's value, and that the block behind its pointer is plain. -/
theorem of_laid {W : World} (h : laidMetH Ybad.prog Rows.lawS6728BWholeRow.laid W) :
    ∃ (a : Addr) (c0 : Array Value) (t0 : TypeId), W.var? Ybad.prog vname = some #[.iface 41 (.pointer (some a))] ∧ W.heap[a.block]? = some (.cells c0 t0 (0, 0)) := by
  rw [MakeChecks.laidMetH_plain _ _ _ (by kernel_rfl)] at h
  have h' : laidMet Ybad.prog [(vname, .iface tname (.ptr (.agg [.lit (.string text)])))] W := h
  obtain ⟨ps, ⟨g0, t0, cs0, f0, p0, q0, hg0, ht0, hv0, hd0, _, e0⟩, _, hrows⟩ := h'
  obtain rfl := Option.some.inj (gAsked.symm.trans hg0)
  obtain rfl := Option.some.inj (tAsked.symm.trans ht0)
  subst e0
  obtain ⟨l0⟩ := cs0
  have ok0 : ∀ u v, l0 = [.iface u v] → Value.okWide Ybad.prog W .any 0 u v := fun u v e => by
    subst e
    exact (hrows 0 0 (by simp [MemPlace.row])).2 u v (by simpa using World.var?_cell hg0 hv0 0)
  obtain ⟨a0, s0, rfl, hc0, hs0, hz0, rfl⟩ := errorString_of_trod Ybad.underlying23 row41 Ybad.underlying41 Ybad.underlying43 rfl rfl Ybad.underlying9 cells43 cells9 hd0 ok0
  obtain ⟨c0, t0, hb0⟩ := (hrows a0.block a0.off (by simp [MemPlace.row])).1
  exact ⟨a0, c0, t0, hv0, hb0⟩

set_option maxRecDepth 100000 in
theorem lifted (os : Os) (started : os.Started) (H : Type) (enc : TypeId × Value → H) :
    ReturnsInHanded {} Ybad.checked os 3 .any (fun w args => (Rows.lawS6728BWholeSpec.pre enc Ybad.prog Ybad.f3 [] false w args ∧ laidMetH Ybad.prog Rows.lawS6728BWholeRow.laid w) ∧ sizedMet enc Ybad.prog Ybad.f3 (OpenSpec.ofChange Rows.lawS6728BWholeSpec) false w args)
      (Rows.lawS6728BWholeSpec.post enc Ybad.prog Ybad.f3 false true false false) := by
  refine returnsInHanded_of_change_and (C := Ybad.checked) (X := fun w _ => laidMetH Ybad.prog Rows.lawS6728BWholeRow.laid w) (fun _ _ _ hh h => h.of_heap hh) own started (by kernel_rfl) Ybad.func3
    (ChangeSpec.witness_shaped (enc := enc) (C := Ybad.checked) (os := os) (X := fun w _ => laidMetH Ybad.prog Rows.lawS6728BWholeRow.laid w) false (World.doorLaid Ybad.prog 28 os) #[.int .u8 0, .string ⟨#[]⟩, .int .i64 0] 8 rfl (World.shaped_of_RefB (by kernel_rfl) (by kernel_rfl)) (by kernel_rfl) (by kernel_rfl) (by kernel_rfl) (door_met os _)) ?_
  intro W base args ds gs before hval0 hW _ _ hL _
  have hval : ∀ (j : Nat) t v, Ybad.f3.params[j]? = some t → args[j]? = some v → Value.okWide Ybad.prog W .any base t v := hval0
  have hW' := hW
  obtain ⟨p, q, hA0, hV0, rfl, hfz, hnd⟩ := hW
  have hA : DataW.TrodAll enc Ybad.prog W 0 (fun _ => true) true Ybad.f3.params.toList args.toList ds p := hA0
  have hV : DataW.TrodVars enc Ybad.prog W (fun _ => true) [vname] gs q := hV0
  rw [Ybad.params3] at hA hval
  obtain ⟨v0, vs0, d0, ds0, p0, q0, hargs, rfl, rfl, h0, r0⟩ := trodAll_cons hA
  obtain ⟨v1, vs1, d1, ds1, p1, q1, rfl, rfl, rfl, h1, r1⟩ := trodAll_cons r0
  obtain ⟨v2, vs2, d2, ds2, p2, q2, rfl, rfl, rfl, h2, r2⟩ := trodAll_cons r1
  obtain ⟨rfl, rfl, rfl⟩ := trodAll_nil r2
  obtain rfl : args = #[v0, v1, v2] := by cases args; simp_all
  obtain ⟨a0, rfl, rfl, rfl, w0⟩ := open_int Ybad.underlying5 (hval 0 5 v0 rfl rfl) h0
  obtain ⟨s1, rfl, rfl, rfl, hs1⟩ := open_string Ybad.underlying9 (hval 1 9 v1 rfl rfl) h1
  obtain ⟨a2, rfl, rfl, rfl, w2⟩ := open_int Ybad.underlying3 (hval 2 3 v2 rfl rfl) h2
  obtain ⟨a, c0, t0, hv, hb⟩ := of_laid hL
  obtain ⟨rfl, rfl⟩ := hV.unique (vars_read1 enc gAsked tAsked Ybad.underlying23 hv trivial _)
  clear hA0 hV0 hval0
  have hg : W.cell? ⟨0, 0, none⟩ = some (.iface 41 (.pointer (some a))) := by simpa using World.var?_cell gAsked hv 0
  have hz : 0 < W.heap.size := World.block_lt_of_cell? _ _ hg
  have hb0 := bounds_u8 w0
  refine (walk a0 s1 a2 a c0 t0 W (by omega) (by omega) hg hb).mono fun e W' ⟨he, bel⟩ => ?_
  subst he
  exact ⟨_, rfl, _, _, _, [], _, [.cell 0 0], hW', trodAll_mk1 (shut_bool Ybad.underlying4 _), (trodAll_cons_mk (shut_int Ybad.underlying5 w0) (trodAll_cons_mk (shut_string Ybad.underlying9 hs1) (trodAll_cons_mk (shut_int Ybad.underlying3 w2) trodAll_mk0))), vars_read1 enc gAsked tAsked Ybad.underlying23 (var?_below bel gAsked hz hv) trivial _, bel.frame _, fun h => by cases h⟩

/-- THE ROW. -/
theorem row_holds : Rows.LawS6728BWholeSaid :=
  OpenClaim.holds_of_wide 3 Ybad.f3 rfl rfl rfl rfl rfl rfl rfl ⟨rfl, rfl, rfl, rfl, rfl⟩ rfl rfl rfl rfl rfl (by kernel_rfl) Ybad.func3 (by kernel_rfl)
    (of_decide_eq_true (by kernel_rfl)) (by unfold Func.isWrapper; first | (rw [if_pos (by decide +kernel)]; kernel_rfl) | (rw [if_neg (by decide +kernel)]; exact ⟨rfl, rfl⟩))
    (fun os started H enc _ => lifted os started H enc)

/-- THE STATEMENT: the tied card. -/
theorem lawS6728BWhole_card : Rows.LawS6728BWholeCardSaid :=
  Claim7.holds_tied_plain_at .later [] [.called] true Rows.lawS6728BWholeCard.stood.harness true
    row_holds (fun _ h => by cases h) (by kernel_rfl) (fun _ h => by cases h) lawS6728BWhole_row_tie rfl ⟨rfl, rfl⟩ (by kernel_rfl) rfl
    (fun f fn hf hfn => by
      obtain rfl : f = 3 := Option.some.inj ((show Ybad.prog.funcNamed Rows.lawS6728BWholeRow.func = some 3 by kernel_rfl).symm.trans hf) |>.symm
      obtain rfl : fn = Ybad.f3 := (Option.some.inj (Ybad.func3.symm.trans hfn)).symm
      exact ⟨by kernel_rfl, fun j t ht => by
        rw [Ybad.params3] at ht
        have hm : t ∈ [5, 9, 3] := by simpa using Array.mem_of_getElem? ht
        have hall : ([5, 9, 3].all fun u => !Ybad.prog.wantsStandIn u) = true := by kernel_rfl
        exact (show Ybad.prog.wantsStandIn t = false by simpa using List.all_eq_true.1 hall t hm)⟩)
    (by kernel_rfl)

end Go.Proofs.YbulkeihuDoor
