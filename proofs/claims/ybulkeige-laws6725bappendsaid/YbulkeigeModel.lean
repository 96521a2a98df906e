/-
  THE CONTRACT OF 'zzs6725bmodel' (function 7): a new row that holds the octets.
-/
import Derived.Test.YbulkeigeRows
import Derived.Test.YbulkeigeEnc
import Derived.WalkKit
import Derived.WalkSpells
import Derived.WalkLawsBesides
namespace Go.Proofs.Ybulkeige
open Go.RowKit
set_option linter.unusedVariables false

theorem slice_end {a b : Nat} {x : Option Addr} (h : a = b) : Ending.returned (.slice x a a) = .returned (.slice x b b) := by rw [h]

set_option maxHeartbeats 400000 in
theorem model_any (n : Int) (w : World) (h0 : -9223372036854775808 ≤ n) (h : n ≤ 9223372036854775807) :
    Calls Yba.prog 7 #[.int .i64 n] w fun e w' => e = .returned (.slice (some ⟨w.heap.size, 0, none⟩) (enc n).length (enc n).length) ∧ w' = w.alloc (.cells ((enc n).map (Value.int .u8)).toArray 5) := by
  by_cases c1 : n ≤ 191
  · have HE : Hid (enc n = _) := enc_1 c1
    go_enter Yba.func7, Yba.ntmps7
    go_wp2
    go_ret
    rw [HE.out, and_255_wrap]
    exact ⟨rfl, rfl⟩
  · by_cases c2 : n ≤ 8383
    · have c1' : 192 ≤ n := by omega
      have HE : Hid (enc n = _) := enc_2 c1' c2
      go_enter Yba.func7, Yba.ntmps7
      go_wp2
      go_ret
      rw [HE.out]
      exact ⟨rfl, rfl⟩
    · have c1' : 8384 ≤ n := by omega
      have HE : Hid (enc n = _) := enc_3 c1'
      go_enter Yba.func7, Yba.ntmps7
      go_wp2
      go_ret
      rw [HE.out, and_255_mod n (by omega) (by omega), and_255_mod (n / 256) (by omega) (by omega), and_255_mod (n / 65536) (by omega) (by omega), and_255_mod (n / 16777216) (by omega) (by omega)]
      exact ⟨rfl, rfl⟩

end Go.Proofs.Ybulkeige
