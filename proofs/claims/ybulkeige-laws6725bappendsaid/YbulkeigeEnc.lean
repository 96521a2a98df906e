/-
  THE PLAIN LAW: the octets of a new format length; no Go in sight, but for the model's 'bits'.
-/
import Derived.Laws.BitsAllLaws
namespace Go.Proofs.Ybulkeige

/-- The octets of the length n. -/
def enc (n : Int) : List Int :=
  if n ≤ 191 then [n % 256]
  else if n ≤ 8383 then [192 + (n - 192) / 256, (n - 192) % 256]
  else [255, n / 16777216 % 256, n / 65536 % 256, n / 256 % 256, n % 256]

theorem enc_1 {n : Int} (h : n ≤ 191) : enc n = [n % 256] := by rw [enc, if_pos h]
theorem enc_2 {n : Int} (h0 : 192 ≤ n) (h : n ≤ 8383) : enc n = [192 + (n - 192) / 256, (n - 192) % 256] := by rw [enc, if_neg (by omega), if_pos h]
theorem enc_3 {n : Int} (h : 8384 ≤ n) : enc n = [255, n / 16777216 % 256, n / 65536 % 256, n / 256 % 256, n % 256] := by rw [enc, if_neg (by omega), if_neg (by omega)]

theorem enc_len (n : Int) : 1 ≤ (enc n).length ∧ (enc n).length ≤ 5 := by
  unfold enc
  split
  · simp
  · split <;> simp

theorem and_255 (x : Int) (h0 : 0 ≤ x) (h : x < 18446744073709551616) : bits .and .u64 x 255 = x % 256 := by
  rw [u64_and x 255 h0 h (by omega) (by omega)]
  have : x.toNat &&& (255 : Int).toNat = x.toNat % 256 := Nat.and_two_pow_sub_one_eq_mod x.toNat 8
  rw [this]
  omega

theorem and_255_wrap (n : Int) : bits .and .u64 (IntKind.u64.wrap n) 255 % 256 = n % 256 := by
  rw [IntKind.wrap_u64, and_255 _ (by omega) (by omega)]
  omega

theorem and_255_mod (x : Int) (h0 : 0 ≤ x) (h : x < 18446744073709551616) : bits .and .u64 x 255 % 256 = x % 256 := by
  rw [and_255 x h0 h]
  omega

end Go.Proofs.Ybulkeige
