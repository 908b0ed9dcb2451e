/-
  The plain laws of 64-bit words: the borrow and the carry, read off bits and off comparisons; the order of 192-bit numbers.
-/
import Derived.Test.Qxb6609010aModsAbove
import Derived.Laws.BitsAllLaws
namespace Go.Proofs.Qxb6609010aMods
open Go.RowKit

def Word (x : Int) : Prop := 0 ≤ x ∧ x < 18446744073709551616
/-- The borrow out of x - y - b. -/
def bo (x y b : Int) : Int := if x < y + b then 1 else 0
theorem bo_bd (x y b : Int) : 0 ≤ bo x y b ∧ bo x y b ≤ 1 := by unfold bo; split <;> omega

theorem top_nat (X Y D : Nat) (hX : X < 2 ^ 64) (hY : Y < 2 ^ 64) (hD : D < 2 ^ 64) :
    (((18446744073709551615 ^^^ X) &&& Y) ||| ((18446744073709551615 ^^^ (X ^^^ Y)) &&& D)) / 2 ^ 63 =
      if (X / 2 ^ 63 = 0 ∧ Y / 2 ^ 63 = 1) ∨ (X / 2 ^ 63 = Y / 2 ^ 63 ∧ D / 2 ^ 63 = 1) then 1 else 0 := by
  rw [Nat.or_div_two_pow, Nat.and_div_two_pow, Nat.and_div_two_pow, Nat.xor_div_two_pow, Nat.xor_div_two_pow, Nat.xor_div_two_pow]
  have h1 : X / 2 ^ 63 = 0 ∨ X / 2 ^ 63 = 1 := by omega
  have h2 : Y / 2 ^ 63 = 0 ∨ Y / 2 ^ 63 = 1 := by omega
  have h3 : D / 2 ^ 63 = 0 ∨ D / 2 ^ 63 = 1 := by omega
  have hm : 18446744073709551615 / 2 ^ 63 = 1 := by decide
  rw [hm]
  rcases h1 with h1 | h1 <;> rcases h2 with h2 | h2 <;> rcases h3 with h3 | h3 <;> rw [h1, h2, h3] <;> decide

theorem borrow_bits (x y b : Int) (hx : Word x) (hy : Word y) (hb0 : 0 ≤ b) (hb1 : b ≤ 1) :
    bits .or .u64 (bits .and .u64 (bits .xor .u64 IntKind.u64.max x) y) (bits .and .u64 (bits .xor .u64 IntKind.u64.max (bits .xor .u64 x y)) (IntKind.u64.wrap (IntKind.u64.wrap (x - y) - b))) / 9223372036854775808 = bo x y b := by
  obtain ⟨hx0, hx1⟩ := hx
  obtain ⟨hy0, hy1⟩ := hy
  obtain ⟨X, rfl⟩ := Int.eq_ofNat_of_zero_le hx0
  obtain ⟨Y, rfl⟩ := Int.eq_ofNat_of_zero_le hy0
  have hX : X < 18446744073709551616 := by omega
  have hY : Y < 18446744073709551616 := by omega
  have hm : IntKind.u64.max = ((18446744073709551615 : Nat) : Int) := by rfl
  obtain ⟨D, hD, hDlt⟩ : ∃ D : Nat, IntKind.u64.wrap (IntKind.u64.wrap ((X : Int) - Y) - b) = (D : Int) ∧ D < 18446744073709551616 := by
    rw [IntKind.wrap_u64, IntKind.wrap_u64]
    refine ⟨((((X : Int) - Y) % 18446744073709551616 - b) % 18446744073709551616).toNat, ?_, ?_⟩ <;> omega
  have hD' := hD
  rw [IntKind.wrap_u64, IntKind.wrap_u64] at hD'
  have lt_xor : ∀ a c : Nat, a < 18446744073709551616 → c < 18446744073709551616 → a ^^^ c < 18446744073709551616 := fun a c h1 h2 => Nat.xor_lt_two_pow (n := 64) h1 h2
  have lt_and : ∀ a c : Nat, c < 18446744073709551616 → a &&& c < 18446744073709551616 := fun a c h2 => Nat.and_lt_two_pow (n := 64) a h2
  rw [hD, hm, u64_xor_nat _ _ (by decide) hX, u64_xor_nat _ _ hX hY, u64_xor_nat _ _ (by decide) (lt_xor _ _ hX hY),
    u64_and_nat _ _ (lt_xor _ _ (by decide) hX) hY, u64_and_nat _ _ (lt_xor _ _ (by decide) (lt_xor _ _ hX hY)) hDlt,
    u64_or_nat _ _ (lt_and _ _ hY) (lt_and _ _ hDlt)]
  have ht := top_nat X Y D hX hY hDlt
  have e63 : (9223372036854775808 : Int) = ((2 ^ 63 : Nat) : Int) := by decide
  rw [e63, ← Int.natCast_ediv, ht]
  unfold bo
  split <;> split <;> omega
end Go.Proofs.Qxb6609010aMods
