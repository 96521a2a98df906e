/-
  THE WALKS OF 'LawS6728BWhole' (function 3; it enters 'errors.New', 4, and 'failureOf', 5): one a way of the switch.
-/
import Derived.Test.YbulkeihuDoorRows
import Derived.WalkKit
import Derived.WalkSpells
import Derived.WalkLawsBesides
import Derived.LaidEql
namespace Go.Proofs.YbulkeihuDoor
open Go.RowKit
set_option linter.unusedVariables false

/-- '==' between two interface values of different dynamic types: false. (The kit has no law for it.) -/
theorem run_eql_iface_types {P : Program} (w : World) {ti : TypeId} {ms : Array (String × TypeId)} (tx ty : TypeId) (x y : Value) (hi : P.underlying ti = some (.interface ms)) (hne : tx ≠ ty) :
    (binOp .eql ti (.iface tx x) (.iface ty y)).run P w = .ok (.bool false) w := by
  have h : ∀ d : Nat, (Op.equalIn (d + 1) ti (.iface tx x) (.iface ty y)).run P w = .ok false w := fun d => by simp [Op.equalIn, run_underlying hi, hne]
  simp only [binOp]
  simp [Op.equal, Op.maxDepth, h 9999]

theorem as_nil (W : World) : (Instr.typeAssert .nilIface 23 29 true).run Ybad.prog W = .ok (.tuple #[.agg #[.nilIface], .bool false]) W := by kernel_rfl
theorem as_yes (W : World) (v : Value) : (Instr.typeAssert (.iface 29 v) 23 29 true).run Ybad.prog W = .ok (.tuple #[v, .bool true]) W := by kernel_rfl
theorem as_30 (W : World) (v : Value) : (Instr.typeAssert (.iface 30 v) 23 29 true).run Ybad.prog W = .ok (.tuple #[.agg #[.nilIface], .bool false]) W := by kernel_rfl
theorem as_32 (W : World) (v : Value) : (Instr.typeAssert (.iface 32 v) 23 29 true).run Ybad.prog W = .ok (.tuple #[.agg #[.nilIface], .bool false]) W := by kernel_rfl
theorem as_35 (W : World) (v : Value) : (Instr.typeAssert (.iface 35 v) 23 29 true).run Ybad.prog W = .ok (.tuple #[.agg #[.nilIface], .bool false]) W := by kernel_rfl
theorem as_38 (W : World) (v : Value) : (Instr.typeAssert (.iface 38 v) 23 29 true).run Ybad.prog W = .ok (.tuple #[.agg #[.nilIface], .bool false]) W := by kernel_rfl
theorem as_41 (W : World) (v : Value) : (Instr.typeAssert (.iface 41 v) 23 29 true).run Ybad.prog W = .ok (.tuple #[.agg #[.nilIface], .bool false]) W := by kernel_rfl

theorem comp30 : (Ybad.prog.info? 30).map (·.comparable) = some true := by kernel_rfl
theorem comp32 : (Ybad.prog.info? 32).map (·.comparable) = some true := by kernel_rfl
theorem comp35 : (Ybad.prog.info? 35).map (·.comparable) = some true := by kernel_rfl
theorem comp38 : (Ybad.prog.info? 38).map (·.comparable) = some true := by kernel_rfl
theorem comp41 : (Ybad.prog.info? 41).map (·.comparable) = some true := by kernel_rfl
theorem size43 : (Ybad.prog.info? 43).map (·.size) = some 1 := by kernel_rfl
theorem size29 : (Ybad.prog.info? 29).map (·.size) = some 1 := by kernel_rfl
theorem size34 : (Ybad.prog.info? 34).map (·.size) = some 1 := by kernel_rfl
theorem size37 : (Ybad.prog.info? 37).map (·.size) = some 1 := by kernel_rfl

/-- 'x == x' of one pointer in an interface value, at this program's types. -/
theorem eq_same {u p : TypeId} (hu : Ybad.prog.underlying u = some (.pointer p)) (hc : (Ybad.prog.info? u).map (·.comparable) = some true) (hs : (Ybad.prog.info? p).map (·.size) = some 1) (w : World) (a : Addr) :
    (binOp .eql 23 (.iface u (.pointer (some a))) (.iface u (.pointer (some a)))).run Ybad.prog w = .ok (.bool true) w := by
  obtain ⟨i, hi, hcmp⟩ := Option.map_eq_some_iff.1 hc
  obtain ⟨j, hj, _⟩ := Option.map_eq_some_iff.1 hs
  exact run_eql_iface_ptr_same w a Ybad.underlying23 hu hi hcmp hj

theorem part3 (w : World) (n : Int) : (part 3 #[.int .i64 n] 0).run Ybad.prog w = .ok (.int .i64 n) w := by kernel_rfl

/-- 'x == x' of the struct with one int in an interface value. -/
theorem eq_val (w : World) (n : Int) : (binOp .eql 23 (.iface 38 (.agg #[.int .i64 n])) (.iface 38 (.agg #[.int .i64 n]))).run Ybad.prog w = .ok (.bool true) w := by
  obtain ⟨i, hi, hcmp⟩ := Option.map_eq_some_iff.1 comp38
  have h : ∀ d : Nat, (Op.equalIn (d + 3) 23 (.iface 38 (.agg #[.int .i64 n])) (.iface 38 (.agg #[.int .i64 n]))).run Ybad.prog w = .ok true w := fun d => by
    simp [Op.equalIn, run_underlying Ybad.underlying23, run_underlying Ybad.underlying38, run_underlying Ybad.underlying3, typeInfo, hi, hcmp, part3]
  simp only [binOp]
  simp [Op.equal, Op.maxDepth, h 9997]

set_option maxHeartbeats 400000 in
theorem walk_0 (s : Int) (text : ByteArray) (n : Int) (a : Addr) (w : World) (h0 : 0 ≤ s) (h1 : s ≤ 255) (hs : s % 9 = 0) (hc : w.cell? ⟨0, 0, none⟩ = some (.iface 41 (.pointer (some a)))) :
    Calls Ybad.prog 3 #[.int .u8 s, .string text, .int .i64 n] w fun e w' => e = .returned (.bool true) ∧ Below w.heap.size w w' := by
  have q1 := fun (w : World) (v : Value) => run_eql_iface_nil_left (P := Ybad.prog) w 41 v Ybad.underlying23
  have q2 := as_nil
  have hz : 0 < w.heap.size := World.block_lt_of_cell? _ _ hc
  go_enter Ybad.func3, Ybad.ntmps3
  go_wp2
  go_ret
  exact ⟨rfl, (Below.refl _ _).alloc (Nat.le_refl _) _⟩

set_option maxHeartbeats 400000 in
theorem walk_1 (s : Int) (text : ByteArray) (n : Int) (a : Addr) (w : World) (h0 : 0 ≤ s) (h1 : s ≤ 255) (hs : s % 9 = 1) (hc : w.cell? ⟨0, 0, none⟩ = some (.iface 41 (.pointer (some a)))) :
    Calls Ybad.prog 3 #[.int .u8 s, .string text, .int .i64 n] w fun e w' => e = .returned (.bool true) ∧ Below w.heap.size w w' := by
  have q1 := eq_same Ybad.underlying41 comp41 size43
  have q2 := as_41
  have hz : 0 < w.heap.size := World.block_lt_of_cell? _ _ hc
  go_enter Ybad.func3, Ybad.ntmps3
  go_wp2
  go_ret
  exact ⟨rfl, (Below.refl _ _).alloc (Nat.le_refl _) _⟩

set_option maxHeartbeats 400000 in
theorem walk_2 (s : Int) (text : ByteArray) (n : Int) (w : World) (h0 : 0 ≤ s) (h1 : s ≤ 255) (hs : s % 9 = 2) :
    Calls Ybad.prog 3 #[.int .u8 s, .string text, .int .i64 n] w fun e w' => e = .returned (.bool true) ∧ Below w.heap.size w w' := by
  have q2 := as_yes
  go_enter Ybad.func3, Ybad.ntmps3
  go_wp2
  go_ret
  exact ⟨rfl, (Below.refl _ _).alloc (Nat.le_refl _) _⟩

set_option maxHeartbeats 400000 in
theorem walk_3 (s : Int) (text : ByteArray) (n : Int) (w : World) (h0 : 0 ≤ s) (h1 : s ≤ 255) (hs : s % 9 = 3) :
    Calls Ybad.prog 3 #[.int .u8 s, .string text, .int .i64 n] w fun e w' => e = .returned (.bool true) ∧ Below w.heap.size w w' := by
  have q2 := as_yes
  go_enter Ybad.func3, Ybad.ntmps3
  go_wp2
  go_ret
  exact ⟨rfl, (Below.refl _ _).alloc (Nat.le_refl _) _⟩

set_option maxHeartbeats 400000 in
theorem walk_4 (s : Int) (text : ByteArray) (n : Int) (a : Addr) (w : World) (h0 : 0 ≤ s) (h1 : s ≤ 255) (hs : s % 9 = 4) (hc : w.cell? ⟨0, 0, none⟩ = some (.iface 41 (.pointer (some a)))) :
    Calls Ybad.prog 3 #[.int .u8 s, .string text, .int .i64 n] w fun e w' => e = .returned (.bool true) ∧ Below w.heap.size w w' := by
  have q1 := fun (w : World) (x y : Value) => run_eql_iface_types (P := Ybad.prog) w 30 41 x y Ybad.underlying23 (by decide)
  have q2 := as_30
  have q3 := eq_same Ybad.underlying30 comp30 size29
  have hz : 0 < w.heap.size := World.block_lt_of_cell? _ _ hc
  go_enter Ybad.func3, Ybad.ntmps3
  go_wp2
  go_ret
  exact ⟨rfl, ((Below.refl _ _).alloc (Nat.le_refl _) _).alloc (by simp) _⟩

set_option maxHeartbeats 400000 in
theorem walk_5 (s : Int) (text : ByteArray) (n : Int) (a : Addr) (c0 : Array Value) (t0 : TypeId) (w : World) (h0 : 0 ≤ s) (h1 : s ≤ 255) (hs : s % 9 = 5) (hc : w.cell? ⟨0, 0, none⟩ = some (.iface 41 (.pointer (some a))))
    (hb : w.heap[a.block]? = some (.cells c0 t0 (0, 0))) :
    Calls Ybad.prog 3 #[.int .u8 s, .string text, .int .i64 n] w fun e w' => e = .returned (.bool true) ∧ Below w.heap.size w w' := by
  obtain ⟨i, hi, hcmp⟩ := Option.map_eq_some_iff.1 comp41
  obtain ⟨j, hj, hjs⟩ := Option.map_eq_some_iff.1 size43
  have q2 := as_41
  have q3 := eq_same Ybad.underlying41 comp41 size43
  have hz : 0 < w.heap.size := World.block_lt_of_cell? _ _ hc
  have hlt : a.block < w.heap.size := (Array.getElem?_eq_some_iff.1 hb).1
  have q1 : (binOp .eql 23 (.iface 41 (.pointer (some ⟨w.heap.size, 0, none⟩))) (.iface 41 (.pointer (some a)))).run Ybad.prog ((w.alloc (.cells #[.string text] 43)).alloc (.cells #[.nilIface] 29)) = .ok (.bool false) ((w.alloc (.cells #[.string text] 43)).alloc (.cells #[.nilIface] 29)) := by
    refine run_eql_iface_ptr_other _ Ybad.underlying23 Ybad.underlying41 hi hcmp hj (by rw [hjs]; decide) (ca := #[.string text]) (cb := c0) (ta := 43) (tb := t0) (fun e => ?_) ?_ ?_
    · rw [← e] at hlt
      exact Nat.lt_irrefl _ hlt
    · rw [Below.heap_alloc _ _ _ (by simp)]
      show (w.heap.push _)[w.heap.size]? = _
      simp
    · rw [Below.heap_alloc _ _ _ (by simp; omega), Below.heap_alloc _ _ _ hlt]
      exact hb
  clear hb hi hj
  go_enter Ybad.func3, Ybad.ntmps3
  go_wp2
  go_ret
  exact ⟨rfl, ((Below.refl _ _).alloc (Nat.le_refl _) _).alloc (by simp) _⟩

set_option maxHeartbeats 400000 in
theorem walk_6 (s : Int) (text : ByteArray) (n : Int) (a : Addr) (w : World) (h0 : 0 ≤ s) (h1 : s ≤ 255) (hs : s % 9 = 6) (hc : w.cell? ⟨0, 0, none⟩ = some (.iface 41 (.pointer (some a)))) :
    Calls Ybad.prog 3 #[.int .u8 s, .string text, .int .i64 n] w fun e w' => e = .returned (.bool true) ∧ Below w.heap.size w w' := by
  have q1 := fun (w : World) (x y : Value) => run_eql_iface_types (P := Ybad.prog) w 32 41 x y Ybad.underlying23 (by decide)
  have q2 := as_32
  have q3 := eq_same Ybad.underlying32 comp32 size34
  have hz : 0 < w.heap.size := World.block_lt_of_cell? _ _ hc
  go_enter Ybad.func3, Ybad.ntmps3
  go_wp2
  go_ret
  exact ⟨rfl, ((Below.refl _ _).alloc (Nat.le_refl _) _).alloc (by simp) _⟩

set_option maxHeartbeats 400000 in
theorem walk_7 (s : Int) (text : ByteArray) (n : Int) (a : Addr) (w : World) (h0 : 0 ≤ s) (h1 : s ≤ 255) (hs : s % 9 = 7) (hc : w.cell? ⟨0, 0, none⟩ = some (.iface 41 (.pointer (some a)))) :
    Calls Ybad.prog 3 #[.int .u8 s, .string text, .int .i64 n] w fun e w' => e = .returned (.bool true) ∧ Below w.heap.size w w' := by
  have q1 := fun (w : World) (x y : Value) => run_eql_iface_types (P := Ybad.prog) w 35 41 x y Ybad.underlying23 (by decide)
  have q2 := as_35
  have q3 := eq_same Ybad.underlying35 comp35 size37
  have hz : 0 < w.heap.size := World.block_lt_of_cell? _ _ hc
  go_enter Ybad.func3, Ybad.ntmps3
  go_wp2
  go_ret
  exact ⟨rfl, ((Below.refl _ _).alloc (Nat.le_refl _) _).alloc (by simp) _⟩

set_option maxHeartbeats 400000 in
theorem walk_8 (s : Int) (text : ByteArray) (n : Int) (a : Addr) (w : World) (h0 : 0 ≤ s) (h1 : s ≤ 255) (hs : s % 9 = 8) (hc : w.cell? ⟨0, 0, none⟩ = some (.iface 41 (.pointer (some a)))) :
    Calls Ybad.prog 3 #[.int .u8 s, .string text, .int .i64 n] w fun e w' => e = .returned (.bool true) ∧ Below w.heap.size w w' := by
  have q1 := fun (w : World) (x y : Value) => run_eql_iface_types (P := Ybad.prog) w 38 41 x y Ybad.underlying23 (by decide)
  have q2 := as_38
  have q3 := eq_val
  have hz : 0 < w.heap.size := World.block_lt_of_cell? _ _ hc
  go_enter Ybad.func3, Ybad.ntmps3
  go_wp2
  go_ret
  exact ⟨rfl, (Below.refl _ _).alloc (Nat.le_refl _) _⟩

/-- All ways. -/
theorem walk (s : Int) (text : ByteArray) (n : Int) (a : Addr) (c0 : Array Value) (t0 : TypeId) (w : World) (h0 : 0 ≤ s) (h1 : s ≤ 255) (hc : w.cell? ⟨0, 0, none⟩ = some (.iface 41 (.pointer (some a))))
    (hb : w.heap[a.block]? = some (.cells c0 t0 (0, 0))) :
    Calls Ybad.prog 3 #[.int .u8 s, .string text, .int .i64 n] w fun e w' => e = .returned (.bool true) ∧ Below w.heap.size w w' := by
  rcases (show s % 9 = 0 ∨ s % 9 = 1 ∨ s % 9 = 2 ∨ s % 9 = 3 ∨ s % 9 = 4 ∨ s % 9 = 5 ∨ s % 9 = 6 ∨ s % 9 = 7 ∨ s % 9 = 8 by omega) with h | h | h | h | h | h | h | h | h
  · exact walk_0 s text n a w h0 h1 h hc
  · exact walk_1 s text n a w h0 h1 h hc
  · exact walk_2 s text n w h0 h1 h
  · exact walk_3 s text n w h0 h1 h
  · exact walk_4 s text n a w h0 h1 h hc
  · exact walk_5 s text n a c0 t0 w h0 h1 h hc hb
  · exact walk_6 s text n a w h0 h1 h hc
  · exact walk_7 s text n a w h0 h1 h hc
  · exact walk_8 s text n a w h0 h1 h hc

end Go.Proofs.YbulkeihuDoor
