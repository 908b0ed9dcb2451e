/-
  The walk of FnIsDigitAgreesWithYearDigit: it returns true at every byte.
-/
import Derived.Test.Qxb6614947aModsMinuteWalk
import Derived.Test.Qxb6614947aModsDate
namespace Go.Proofs.Qxb6614947aMods
open Go.RowKit
open Plain (bt isD run val sk)

namespace fnIsDigitAgreesWithYearDigit
theorem year_eq (x : Int) : (((x + 1942) * 416 + 33) * 86400000000 == ((1990 + (x - 48)) * 416 + 32 + 1) * 86400000000) = true := by
  rw [beq_iff_eq]; omega
theorem txt (c : UInt8) : Txt10 (ByteArray.mk #[49, 57, 57] ++ ByteArray.mk #[c] ++ ByteArray.mk #[45, 48, 49, 45, 48, 49]) (c.toNat : Int) := by
  constructor
  · rw [ByteArray.size_append, ByteArray.size_append]; rfl
  all_goals simp [bt, ByteArray.data_append]

set_option maxRecDepth 100000 in
set_option maxHeartbeats 1000000 in
theorem walk_yes (c : UInt8) (h1 : 48 ≤ (c.toNat : Int)) (h2 : (c.toNat : Int) ≤ 57) (w : World) :
    Calls Trym.prog 4 #[.int .u8 (c.toNat : Int)] w fun e w' => e = .returned (.bool true) ∧ Grown w w' := by
  have d := isD_yes h1 h2
  have u : IntKind.u8.wrap ((c.toNat : Int) - 48) = (c.toNat : Int) - 48 := by rw [u8_mod]; omega
  have D := hide d
  clear d
  have kc : (convert 25 9 (.slice (some ⟨w.heap.size, 0, none⟩) 1 1)).run Trym.prog (w.alloc (.cells #[.int .u8 (c.toNat : Int)] 5)) = .ok (.string ⟨#[c]⟩) (w.alloc (.cells #[.int .u8 (c.toNat : Int)] 5)) := conv_one c _ _ (by simp [go_sem])
  go_enter Trym.func4, Trym.ntmps4
  go_wp2_with fail
  refine (zzisDigit_is _ true (unhide D) _).mono ?_
  rintro e w1 ⟨rfl, hw⟩
  subst hw
  go_wp2_with fail
  refine (zzdate_yes _ (c.toNat : Int) (txt c) h1 h2 _).mono ?_
  rintro e w2 ⟨rfl, k, ok, hA⟩
  go_wp2
  go_ret
  exact ⟨ret_bool (year_eq _), hA.grown ((Grown.refl _).alloc _ _)⟩

set_option maxRecDepth 100000 in
set_option maxHeartbeats 1000000 in
theorem walk_low (c : UInt8) (d : isD (c.toNat : Int) = false) (h : (c.toNat : Int) < 48) (w : World) :
    Calls Trym.prog 4 #[.int .u8 (c.toNat : Int)] w fun e w' => e = .returned (.bool true) ∧ Grown w w' := by
  have l0 : 0 ≤ (c.toNat : Int) := by omega
  have l1 : (c.toNat : Int) ≤ 255 := by have := c.toNat_lt; omega
  have u : IntKind.u8.wrap ((c.toNat : Int) - 48) = (c.toNat : Int) + 208 := by rw [u8_mod]; omega
  have D := hide d
  clear d
  have kc : (convert 25 9 (.slice (some ⟨w.heap.size, 0, none⟩) 1 1)).run Trym.prog (w.alloc (.cells #[.int .u8 (c.toNat : Int)] 5)) = .ok (.string ⟨#[c]⟩) (w.alloc (.cells #[.int .u8 (c.toNat : Int)] 5)) := conv_one c _ _ (by simp [go_sem])
  go_enter Trym.func4, Trym.ntmps4
  go_wp2_with fail
  refine (zzisDigit_is _ false (unhide D) _).mono ?_
  rintro e w1 ⟨rfl, hw⟩
  subst hw
  go_wp2_with fail
  refine (zzdate_no _ (c.toNat : Int) (txt c) (unhide D) _).mono ?_
  rintro e w2 ⟨rfl, k, ok, hA⟩
  go_wp2
  go_ret
  exact ⟨rfl, hA.grown ((Grown.refl _).alloc _ _)⟩

set_option maxRecDepth 100000 in
set_option maxHeartbeats 1000000 in
theorem walk_high (c : UInt8) (d : isD (c.toNat : Int) = false) (h : 57 < (c.toNat : Int)) (w : World) :
    Calls Trym.prog 4 #[.int .u8 (c.toNat : Int)] w fun e w' => e = .returned (.bool true) ∧ Grown w w' := by
  have l0 : 0 ≤ (c.toNat : Int) := by omega
  have l1 : (c.toNat : Int) ≤ 255 := by have := c.toNat_lt; omega
  have u : IntKind.u8.wrap ((c.toNat : Int) - 48) = (c.toNat : Int) - 48 := by rw [u8_mod]; omega
  have D := hide d
  clear d
  have kc : (convert 25 9 (.slice (some ⟨w.heap.size, 0, none⟩) 1 1)).run Trym.prog (w.alloc (.cells #[.int .u8 (c.toNat : Int)] 5)) = .ok (.string ⟨#[c]⟩) (w.alloc (.cells #[.int .u8 (c.toNat : Int)] 5)) := conv_one c _ _ (by simp [go_sem])
  go_enter Trym.func4, Trym.ntmps4
  go_wp2_with fail
  refine (zzisDigit_is _ false (unhide D) _).mono ?_
  rintro e w1 ⟨rfl, hw⟩
  subst hw
  go_wp2_with fail
  refine (zzdate_no _ (c.toNat : Int) (txt c) (unhide D) _).mono ?_
  rintro e w2 ⟨rfl, k, ok, hA⟩
  go_wp2
  go_ret
  exact ⟨rfl, hA.grown ((Grown.refl _).alloc _ _)⟩

theorem walk (c : UInt8) (w : World) :
    Calls Trym.prog 4 #[.int .u8 (c.toNat : Int)] w fun e w' => e = .returned (.bool true) ∧ Grown w w' := by
  cases d : isD (c.toNat : Int) with
  | true => obtain ⟨h1, h2⟩ : 48 ≤ (c.toNat : Int) ∧ (c.toNat : Int) ≤ 57 := of_decide_eq_true d; exact walk_yes c h1 h2 w
  | false =>
    have n := of_decide_eq_false d
    by_cases h : (c.toNat : Int) < 48
    · exact walk_low c d h w
    · exact walk_high c d (by omega) w
end fnIsDigitAgreesWithYearDigit
end Go.Proofs.Qxb6614947aMods
