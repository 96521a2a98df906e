/-
  THE CONTRACTS OF '(bigEndian).AppendUint32' (function 9) AND 'appendLength' (function 6).
-/
import Derived.Test.YbulkeigeRows
import Derived.Test.YbulkeigeLaws
import Derived.Test.YbulkeigeEnc
import Derived.WalkKit
import Derived.WalkSpells
import Derived.WalkLawsBesides
import Derived.Deep.RegionWith
namespace Go.Proofs.Ybulkeige
open Go.RowKit
set_option linter.unusedVariables false
theorem info5' : (Yba.prog.info? 5).map (fun i => (i.zero, i.size, i.bytes)) = some (some (.int .u8 0), 1, 1) := by kernel_rfl
set_option maxHeartbeats 400000 in
theorem app32 (ao : Option Addr) (n cap : Nat) (xs : List Value) (v : Int) (w : World) (h0 : 0 ≤ v) (h : v < 4294967296) (hn : n ≤ 100000000) (hown : w.ownsRow 0 5 1 (.slice ao n cap) n xs) :
    Calls Yba.prog 9 #[.agg #[], .slice ao n cap, .int .u32 v] w fun e w' => ∃ v', e = .returned v' ∧ After w w' ao n cap 5 1 v' (n + 4) (xs ++ [v / 16777216, v / 65536 % 256, v / 256 % 256, v % 256].map (Value.int .u8)) := by
  obtain ⟨i0, hi, hz0, hz1, hz2⟩ := info_parts info5'
  go_enter Yba.func9, Yba.ntmps9
  go_wp2_with (at_builtin; refine wpList_append_after _ rfl _ _ 22 rfl 5 i0 (.int .u8 0) 1 1 Yba.underlying22 hi hz0 hz1 hz2 rfl (by decide) ao n cap xs rfl ((hown.alloc _).alloc _) ⟨w.heap.size + 1, 0, none⟩ 4 4 ([v / 16777216, v / 65536 % 256, v / 256 % 256, v % 256].map (Value.int .u8)) rfl rfl ?c1 (ints_oneCell _ _) (by decide) (by unfold maxLen; omega) (by omega) ?_)
  case c1 => exact news_new _ _ _ _ (by simp)
  intro v' w1 h1
  go_wp2
  go_ret
  exact ⟨v', rfl, h1.of_alloc.of_alloc⟩

set_option maxHeartbeats 400000 in
theorem length_1 (ao : Option Addr) (n cap : Nat) (xs : List Value) (k : Int) (w : World) (h0 : -9223372036854775808 ≤ k) (h : k ≤ 191) (hn : n ≤ 10000000) (hown : w.ownsRow 0 5 1 (.slice ao n cap) n xs) :
    Calls Yba.prog 6 #[.slice ao n cap, .int .i64 k] w fun e w' => ∃ v', e = .returned v' ∧ After w w' ao n cap 5 1 v' (n + (enc k).length) (xs ++ (enc k).map (Value.int .u8)) := by
  obtain ⟨i0, hi, hz0, hz1, hz2⟩ := info_parts info5'
  have HE : Hid (enc k = _) := enc_1 h
  have h' : k < 192 := by omega
  go_enter Yba.func6, Yba.ntmps6
  go_wp2_with (at_builtin; refine wpList_append_after _ rfl _ _ 22 rfl 5 i0 (.int .u8 0) 1 1 Yba.underlying22 hi hz0 hz1 hz2 rfl (by decide) ao n cap xs rfl (hown.alloc _) ⟨w.heap.size, 0, none⟩ 1 1 ([k % 256].map (Value.int .u8)) rfl rfl ?c1 (ints_oneCell _ _) (by decide) (by unfold maxLen; omega) (by omega) ?_)
  case c1 => exact news_new _ _ _ _ (by simp)
  intro v' w1 h1
  go_wp2
  go_ret
  rw [HE.out]
  exact ⟨v', rfl, h1.of_alloc⟩

set_option maxHeartbeats 400000 in
theorem length_2 (ao : Option Addr) (n cap : Nat) (xs : List Value) (k : Int) (w : World) (h0 : 192 ≤ k) (h : k ≤ 8383) (hn : n ≤ 10000000) (hown : w.ownsRow 0 5 1 (.slice ao n cap) n xs) :
    Calls Yba.prog 6 #[.slice ao n cap, .int .i64 k] w fun e w' => ∃ v', e = .returned v' ∧ After w w' ao n cap 5 1 v' (n + (enc k).length) (xs ++ (enc k).map (Value.int .u8)) := by
  obtain ⟨i0, hi, hz0, hz1, hz2⟩ := info_parts info5'
  have HE : Hid (enc k = _) := enc_2 h0 h
  have h' : k < 8384 := by omega
  go_enter Yba.func6, Yba.ntmps6
  go_wp2_with (at_builtin; refine wpList_append_after _ rfl _ _ 22 rfl 5 i0 (.int .u8 0) 1 1 Yba.underlying22 hi hz0 hz1 hz2 rfl (by decide) ao n cap xs rfl (hown.alloc _) ⟨w.heap.size, 0, none⟩ 2 2 ([(k - 192) / 256 + 192, (k - 192) % 256].map (Value.int .u8)) rfl rfl ?c1 (ints_oneCell _ _) (by decide) (by unfold maxLen; omega) (by omega) ?_)
  case c1 => exact news_new _ _ _ _ (by simp)
  intro v' w1 h1
  go_wp2
  go_ret
  rw [HE.out, Int.add_comm 192]
  exact ⟨v', rfl, h1.of_alloc⟩

theorem after_3 {w w2 : World} {ao : Option Addr} {n cap : Nat} {v : Value} {k : Int} {xs : List Value} (h0 : 8384 ≤ k)
    (h : After w w2 ao n cap 5 1 v (n + 1 + 4) ((xs ++ [255].map (Value.int .u8)) ++ [IntKind.u32.wrap k / 16777216, IntKind.u32.wrap k / 65536 % 256, IntKind.u32.wrap k / 256 % 256, IntKind.u32.wrap k % 256].map (Value.int .u8))) :
    After w w2 ao n cap 5 1 v (n + (enc k).length) (xs ++ (enc k).map (Value.int .u8)) := by
  rw [enc_3 h0]
  rw [IntKind.wrap_u32'] at h
  have e1 : k % 4294967296 / 16777216 = k / 16777216 % 256 := by omega
  have e2 : k % 4294967296 / 65536 % 256 = k / 65536 % 256 := by omega
  have e3 : k % 4294967296 / 256 % 256 = k / 256 % 256 := by omega
  have e4 : k % 4294967296 % 256 = k % 256 := by omega
  rw [e1, e2, e3, e4, List.append_assoc] at h
  exact h

set_option maxHeartbeats 400000 in
theorem length_3 (ao : Option Addr) (n cap : Nat) (xs : List Value) (k : Int) (w : World) (h0 : 8384 ≤ k) (h : k ≤ 9223372036854775807) (hn : n ≤ 10000000) (hown : w.ownsRow 0 5 1 (.slice ao n cap) n xs) :
    Calls Yba.prog 6 #[.slice ao n cap, .int .i64 k] w fun e w' => ∃ v', e = .returned v' ∧ After w w' ao n cap 5 1 v' (n + (enc k).length) (xs ++ (enc k).map (Value.int .u8)) := by
  obtain ⟨i0, hi, hz0, hz1, hz2⟩ := info_parts info5'
  have HE : Hid (enc k = _) := enc_3 h0
  have hw0 : 0 ≤ IntKind.u32.wrap k := by rw [IntKind.wrap_u32']; omega
  have hw1 : IntKind.u32.wrap k < 4294967296 := by rw [IntKind.wrap_u32']; omega
  go_enter Yba.func6, Yba.ntmps6
  go_wp2
  go_region_law (first | (refine step_append_after _ (by rfl) _ _ 22 (by rfl) 5 i0 (.int .u8 0) 1 1 Yba.underlying22 hi hz0 hz1 hz2 rfl (by decide) ao n cap xs (by rfl) (hown.alloc _) ⟨w.heap.size, 0, none⟩ 1 1 ([255].map (Value.int .u8)) (by rfl) rfl (news_new _ _ _ _ (by simp)) (ints_oneCell _ _) (by decide) (by unfold maxLen; omega) (by omega) ?_; intro ao1 cap1 w1 h1) | (go_simp; go_at_call 9; refine (app32 ao1 (n + 1) cap1 _ (IntKind.u32.wrap k) w1 hw0 hw1 (by omega) h1.own).mono ?_; rintro e w2 ⟨v', rfl, h2⟩))
  all_goals go_wp2
  all_goals go_ret
  all_goals refine ⟨v', rfl, ?_⟩
  all_goals first | exact after_3 h0 (h1.of_alloc.of_drew.trans h2) | exact after_3 h0 (h1.of_drew.of_alloc.trans h2) | exact after_3 h0 (h1.of_alloc.trans h2)
theorem length_any (ao : Option Addr) (n cap : Nat) (xs : List Value) (k : Int) (w : World) (h0 : -9223372036854775808 ≤ k) (h : k ≤ 9223372036854775807) (hn : n ≤ 10000000) (hown : w.ownsRow 0 5 1 (.slice ao n cap) n xs) :
    Calls Yba.prog 6 #[.slice ao n cap, .int .i64 k] w fun e w' => ∃ v', e = .returned v' ∧ After w w' ao n cap 5 1 v' (n + (enc k).length) (xs ++ (enc k).map (Value.int .u8)) := by
  by_cases c1 : k ≤ 191
  · exact length_1 ao n cap xs k w h0 c1 hn hown
  · by_cases c2 : k ≤ 8383
    · exact length_2 ao n cap xs k w (by omega) c2 hn hown
    · exact length_3 ao n cap xs k w (by omega) h hn hown

end Go.Proofs.Ybulkeige
