/-
  Seat b4473a: math/bits.Add64 by the entry of the model, base93Eight walked, and its number for eight digits.
-/
import Derived.Test.YbulkcnpoRows
import Derived.Test.YbulkcnpoShelf
import Derived.Test.YbulkcnpoArith
import Derived.WalkKit
import Derived.WalkSpells
import Derived.ProofKit
import Derived.Laws.Externs
import Derived.Laws.Bits64b
import Derived.BigQuiet
import Derived.Deep.QuietTactic

namespace Go.Proofs.Ybulkcnpo
open Go.RowKit
/-! ### math/bits.Add64 (the model's entry), base93Eight -/
theorem add64 (x y : Nat) (w : World) : (callFunc 11 #[.int .u64 x, .int .u64 y, .int .u64 0]).run Yba.prog w =
    .ok (.value (.tuple #[.int .u64 (((x + y) % 18446744073709551616 : Nat) : Int), .int .u64 (((x + y) / 18446744073709551616 : Nat) : Int)])) w := by
  rw [run_callFunc_extern Yba.func11 (by kernel_rfl) (by kernel_rfl) (by kernel_rfl) (e := add64Entry) (by kernel_rfl), run_add64 x y 0 (by omega) (by omega) (by omega) (by omega)]
  simp only [Result.andThen]
  congr 5 <;> omega
def f1 (W : Int) : Int := IntKind.u64.wrap (IntKind.u64.wrap (bits .and .u64 W 71777214294589695 * 93) + bits .and .u64 (W / 256) 71777214294589695)
def f2 (W : Int) : Int := IntKind.u64.wrap (IntKind.u64.wrap (bits .and .u64 W 281470681808895 * 8649) + bits .and .u64 (W / 65536) 281470681808895)
def f3 (W : Int) : Int := IntKind.u64.wrap (IntKind.u64.wrap (bits .and .u64 W 4294967295 * 74805201) + W / 4294967296)
theorem wrapU (n : Nat) (h : n < 18446744073709551616) : IntKind.u64.wrap (n : Int) = (n : Int) := by rw [IntKind.wrap_u64]; omega
theorem f1_nat (W : Nat) (hW : W < 18446744073709551616) (h1 : (W &&& 71777214294589695) * 93 + (W / 256 &&& 71777214294589695) < 18446744073709551616) :
    f1 W = (((W &&& 71777214294589695) * 93 + (W / 256 &&& 71777214294589695) : Nat) : Int) := by
  have e1 : bits .and .u64 (W : Int) 71777214294589695 = ((W &&& 71777214294589695 : Nat) : Int) := bits_and_u64_nat W 71777214294589695 hW (by omega)
  have e2 : bits .and .u64 ((W / 256 : Nat) : Int) 71777214294589695 = ((W / 256 &&& 71777214294589695 : Nat) : Int) := bits_and_u64_nat (W / 256) 71777214294589695 (by omega) (by omega)
  have e3 : (W : Int) / 256 = ((W / 256 : Nat) : Int) := by omega
  have e4 : ((W &&& 71777214294589695 : Nat) : Int) * 93 = (((W &&& 71777214294589695) * 93 : Nat) : Int) := by omega
  have e5 : (((W &&& 71777214294589695) * 93 : Nat) : Int) + ((W / 256 &&& 71777214294589695 : Nat) : Int) = (((W &&& 71777214294589695) * 93 + (W / 256 &&& 71777214294589695) : Nat) : Int) := (Int.natCast_add _ _).symm
  unfold f1
  rw [e1, e3, e2, e4, wrapU _ (Nat.lt_of_le_of_lt (Nat.le_add_right _ _) h1), e5, wrapU _ h1]
theorem f2_nat (W : Nat) (hW : W < 18446744073709551616) (h1 : (W &&& 281470681808895) * 8649 + (W / 65536 &&& 281470681808895) < 18446744073709551616) :
    f2 W = (((W &&& 281470681808895) * 8649 + (W / 65536 &&& 281470681808895) : Nat) : Int) := by
  have e1 : bits .and .u64 (W : Int) 281470681808895 = ((W &&& 281470681808895 : Nat) : Int) := bits_and_u64_nat W 281470681808895 hW (by omega)
  have e2 : bits .and .u64 ((W / 65536 : Nat) : Int) 281470681808895 = ((W / 65536 &&& 281470681808895 : Nat) : Int) := bits_and_u64_nat (W / 65536) 281470681808895 (by omega) (by omega)
  have e3 : (W : Int) / 65536 = ((W / 65536 : Nat) : Int) := by omega
  have e4 : ((W &&& 281470681808895 : Nat) : Int) * 8649 = (((W &&& 281470681808895) * 8649 : Nat) : Int) := by omega
  have e5 : (((W &&& 281470681808895) * 8649 : Nat) : Int) + ((W / 65536 &&& 281470681808895 : Nat) : Int) = (((W &&& 281470681808895) * 8649 + (W / 65536 &&& 281470681808895) : Nat) : Int) := (Int.natCast_add _ _).symm
  unfold f2
  rw [e1, e3, e2, e4, wrapU _ (Nat.lt_of_le_of_lt (Nat.le_add_right _ _) h1), e5, wrapU _ h1]
theorem f3_nat (W : Nat) (hW : W < 18446744073709551616) (h1 : (W &&& 4294967295) * 74805201 + W / 4294967296 < 18446744073709551616) :
    f3 W = (((W &&& 4294967295) * 74805201 + W / 4294967296 : Nat) : Int) := by
  have e1 : bits .and .u64 (W : Int) 4294967295 = ((W &&& 4294967295 : Nat) : Int) := bits_and_u64_nat W 4294967295 hW (by omega)
  have e3 : (W : Int) / 4294967296 = ((W / 4294967296 : Nat) : Int) := by omega
  have e4 : ((W &&& 4294967295 : Nat) : Int) * 74805201 = (((W &&& 4294967295) * 74805201 : Nat) : Int) := by omega
  have e5 : (((W &&& 4294967295) * 74805201 : Nat) : Int) + ((W / 4294967296 : Nat) : Int) = (((W &&& 4294967295) * 74805201 + W / 4294967296 : Nat) : Int) := (Int.natCast_add _ _).symm
  unfold f3
  rw [e1, e3, e4, wrapU _ (Nat.lt_of_le_of_lt (Nat.le_add_right _ _) h1), e5, wrapU _ h1]
theorem word_lt (x0 x1 x2 x3 x4 x5 x6 x7 : Nat) (h0 : x0 < 256) (h1 : x1 < 256) (h2 : x2 < 256) (h3 : x3 < 256) (h4 : x4 < 256) (h5 : x5 < 256) (h6 : x6 < 256) (h7 : x7 < 256) : word x0 x1 x2 x3 x4 x5 x6 x7 < 18446744073709551616 := by
  unfold word; omega
theorem eight_num (x0 x1 x2 x3 x4 x5 x6 x7 : Nat) (h0 : x0 ≤ 92) (h1 : x1 ≤ 92) (h2 : x2 ≤ 92) (h3 : x3 ≤ 92) (h4 : x4 ≤ 92) (h5 : x5 ≤ 92) (h6 : x6 ≤ 92) (h7 : x7 ≤ 92) :
    f3 (f2 (f1 (word x0 x1 x2 x3 x4 x5 x6 x7 : Nat))) = ((eight x0 x1 x2 x3 x4 x5 x6 x7 : Nat) : Int) := by
  have s1 := step1 x0 x1 x2 x3 x4 x5 x6 x7 h0 h1 h2 h3 h4 h5 h6 h7
  have s2 := step2 (x0 * 93 + x1) (x2 * 93 + x3) (x4 * 93 + x5) (x6 * 93 + x7) (by omega) (by omega) (by omega) (by omega)
  have s3 := step3 ((x0 * 93 + x1) * 8649 + (x2 * 93 + x3)) ((x4 * 93 + x5) * 8649 + (x6 * 93 + x7)) (by omega)
  rw [f1_nat _ (word_lt _ _ _ _ _ _ _ _ (by omega) (by omega) (by omega) (by omega) (by omega) (by omega) (by omega) (by omega)) (by rw [s1]; omega), s1]
  rw [f2_nat _ (by omega) (by rw [s2]; omega), s2]
  rw [f3_nat _ (by omega) (by rw [s3]; omega), s3]
  rfl
theorem ret_int {k : IntKind} {a b : Int} (h : a = b) : Ending.returned (.int k a) = .returned (.int k b) := by rw [h]
set_option maxHeartbeats 1000000 in
theorem eight_walk (W : Nat) (w : World) :
    Calls Yba.prog 9 #[.int .u64 W] w fun e w' => e = .returned (.int .u64 (f3 (f2 (f1 W)))) ∧ w' = w := by
  go_enter Yba.func9, Yba.ntmps9
  go_wp2
  go_ret
  exact ⟨rfl, rfl⟩
theorem eight_digits (x0 x1 x2 x3 x4 x5 x6 x7 : Nat) (h0 : x0 ≤ 92) (h1 : x1 ≤ 92) (h2 : x2 ≤ 92) (h3 : x3 ≤ 92) (h4 : x4 ≤ 92) (h5 : x5 ≤ 92) (h6 : x6 ≤ 92) (h7 : x7 ≤ 92) (w : World) :
    Calls Yba.prog 9 #[.int .u64 ((word x0 x1 x2 x3 x4 x5 x6 x7 : Nat) : Int)] w fun e w' => e = .returned (.int .u64 ((eight x0 x1 x2 x3 x4 x5 x6 x7 : Nat) : Int)) ∧ w' = w :=
  (eight_walk _ w).mono fun _ _ ⟨h, hw⟩ => ⟨h.trans (ret_int (eight_num _ _ _ _ _ _ _ _ h0 h1 h2 h3 h4 h5 h6 h7)), hw⟩
end Go.Proofs.Ybulkcnpo
