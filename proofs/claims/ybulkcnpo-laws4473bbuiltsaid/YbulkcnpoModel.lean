/-
  Seat b4473a: the model by the rule of Horner, walked: it gives the same number.
-/
import Derived.Test.YbulkcnpoNumber
import Derived.OpenShut

namespace Go.Proofs.Ybulkcnpo
open Go.RowKit
/-- Horner's rule. -/
def hor (d : Nat → Nat) : Nat → Nat
  | 0 => 0
  | k + 1 => hor d k * 93 + d k
theorem hor_value (d : Nat → Nat) : hor d 13 = value d := by
  simp only [hor, value, eight]; omega
theorem hor_lt (d : Nat → Nat) (hd : ∀ i, i < 13 → d i ≤ 92) : ∀ k, k ≤ 13 → hor d k < 93 ^ k
  | 0, _ => by simp [hor]
  | k + 1, hk => by
    have h1 := hor_lt d hd k (by omega)
    have h2 := hd k (by omega)
    rw [Nat.pow_succ]
    simp only [hor]
    omega
theorem hor_bd (d : Nat → Nat) (hd : ∀ i, i < 13 → d i ≤ 92) (k : Nat) (hk : k ≤ 13) : hor d k < 38929455665581472638810893 := by
  have h1 := hor_lt d hd k hk
  have h2 : 93 ^ k ≤ 93 ^ 13 := Nat.pow_le_pow_right (by omega) hk
  have h3 : (93 : Nat) ^ 13 ≤ 38929455665581472638810893 := by decide
  omega
set_option maxHeartbeats 2000000 in
theorem model_any (g : Nat) (d : Nat → Nat) (hd : ∀ i, i < 13 → d i ≤ 92) (w : World) (hc : ∀ i, i < 13 → w.cell? ⟨g, i, none⟩ = some (.int .u8 ((33 + d i : Nat) : Int))) :
    Calls Yba.prog 7 #[.pointer (some ⟨g, 0, none⟩)] w fun e w' => e = .returned (.tuple #[.int .u64 ((value d / 18446744073709551616 : Nat) : Int), .int .u64 ((value d % 18446744073709551616 : Nat) : Int)]) ∧ w' = w := by
  go_enter Yba.func7, Yba.ntmps7
  go_wp2
  go_loop [2, 3, 4] (fun h l i => ∃ k : Nat, k ≤ 13 ∧ i = .int .i64 k ∧ h = .int .u64 ((hor d k / 18446744073709551616 : Nat) : Int) ∧ l = .int .u64 ((hor d k % 18446744073709551616 : Nat) : Int)) (fun _ _ i => 13 - (intOf i).toNat)
  case atStart => exact ⟨0, by omega, rfl, by simp [hor], by simp [hor]⟩
  case round =>
    obtain ⟨k, hk, rfl, rfl, rfl⟩ := hrel
    by_cases hlt : k < 13
    · have hck := hc k hlt
      have hdk := hd k hlt
      have hb := hor_bd d hd k hk
      obtain ⟨H, hH⟩ : ∃ H, H = hor d k / 18446744073709551616 := ⟨_, rfl⟩
      obtain ⟨L, hL⟩ : ∃ L, L = hor d k % 18446744073709551616 := ⟨_, rfl⟩
      obtain ⟨D, hD⟩ : ∃ D, D = d k := ⟨_, rfl⟩
      rw [← hH, ← hL]
      rw [← hD] at hdk hck
      have hsub : (33 + (D : Int) - 33) = (D : Int) := by omega
      obtain ⟨h1, l1, hm, HM⟩ : ∃ h1 l1 : Nat, (∀ w', Calls Yba.prog 10 #[.int .u64 (L : Int), .int .u64 93] w' fun e w'' => e = .returned (.tuple #[.int .u64 (h1 : Int), .int .u64 (l1 : Int)]) ∧ w'' = w') ∧ Hid (h1 = L * 93 / 18446744073709551616 ∧ l1 = L * 93 % 18446744073709551616) :=
        ⟨_, _, fun w' => Yba.bits_Mul64 L 93 (by omega) (by omega) w', ⟨rfl, rfl⟩⟩
      obtain ⟨s, c, hs, HS⟩ : ∃ s c : Nat, (∀ w', (callFunc 11 #[.int .u64 (l1 : Int), .int .u64 (D : Int), .int .u64 0]).run Yba.prog w' = .ok (.value (.tuple #[.int .u64 (s : Int), .int .u64 (c : Int)])) w') ∧ Hid (s = (l1 + D) % 18446744073709551616 ∧ c = (l1 + D) / 18446744073709551616) :=
        ⟨_, _, fun w' => add64 l1 D w', ⟨rfl, rfl⟩⟩
      have HR : Hid (IntKind.u64.wrap (IntKind.u64.wrap (IntKind.u64.wrap ((H : Int) * 93) + (h1 : Int)) + (c : Int)) = ((hor d (k + 1) / 18446744073709551616 : Nat) : Int) ∧ (s : Int) = ((hor d (k + 1) % 18446744073709551616 : Nat) : Int)) := by
        obtain ⟨e1, e2⟩ := HM.out
        obtain ⟨e3, e4⟩ := HS.out
        simp only [hor, ← hD]
        rw [IntKind.wrap_u64, IntKind.wrap_u64, IntKind.wrap_u64]
        constructor <;> omega
      clear HM HS hH hL hD hc hd hb hk
      go_wp2_with fail
      refine (hm _).mono ?_
      rintro e w4 ⟨rfl, hw4⟩
      subst hw4
      clear hm
      go_wp2
      go_round
      case rel => exact ⟨k + 1, by omega, by go_num, by rw [← HR.out.1], by rw [← HR.out.2]⟩
      case measure => simp [intOf]; omega
    · have : k = 13 := by omega
      subst this
      rw [hor_value]
      go_wp2
      go_ret2
      exact ⟨rfl, rfl⟩
end Go.Proofs.Ybulkcnpo
