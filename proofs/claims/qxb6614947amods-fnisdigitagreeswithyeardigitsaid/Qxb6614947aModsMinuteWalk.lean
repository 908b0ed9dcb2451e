/-
  The walk of FnIsDigitAgreesWithOneDigitMinute: it returns true at every byte.
-/
import Derived.Test.Qxb6614947aModsTime
import Derived.Laws.IdiomStrings
namespace Go.Proofs.Qxb6614947aMods
open Go.RowKit
open Plain (bt isD run val sk)

theorem zzisDigit_is (c : Int) (v : Bool) (hv : isD c = v) (w : World) : Calls Trym.prog 5 #[.int .u8 c] w fun e w' => e = .returned (.bool v) ∧ w' = w := by
  have HV := hide hv
  clear hv
  go_enter Trym.func5, Trym.ntmps5
  go_wp2_with (go_at_call 8; refine (isDigit_is c v (unhide HV) _).mono ?_; rintro e w' ⟨rfl, rfl⟩)
  go_ret
  exact ⟨rfl, rfl⟩

/-- string of a slice of the one byte c. -/
theorem conv_one (c : UInt8) (w : World) (b : Nat) (h : w.cell? ⟨b, 0, none⟩ = some (.int .u8 (c.toNat : Int))) :
    (convert 25 9 (.slice (some ⟨b, 0, none⟩) 1 1)).run Trym.prog w = .ok (.string ⟨#[c]⟩) w :=
  run_convert_bytes_back (P := Trym.prog) w 25 9 5 ⟨b, 0, none⟩ 1 [c] Trym.underlying25 Trym.underlying5 Trym.underlying9 (fun j hj => by
    have : j = 0 := by simpa using hj
    subst this
    simpa [Addr.add] using h)

theorem At.grown {W w0 : World} {s : ByteArray} {k : Nat} {ok : Bool} (h : At W w0 s k ok) {w : World} (g : Grown w w0) : Grown w W := by
  obtain ⟨n, rfl⟩ := h
  exact (g.alloc _ _)
theorem u8_mod (x : Int) : IntKind.u8.wrap x = x % 256 := by simp [IntKind.wrap, IntKind.bits, IntKind.signed]

namespace fnIsDigitAgreesWithOneDigitMinute
theorem txt (c : UInt8) : Txt4 (ByteArray.mk #[48, 58, 48] ++ ByteArray.mk #[c]) (c.toNat : Int) := by
  constructor
  · rw [ByteArray.size_append]; rfl
  all_goals simp [bt, ByteArray.data_append]

set_option maxRecDepth 100000 in
set_option maxHeartbeats 1000000 in
theorem walk_yes (c : UInt8) (h1 : 48 ≤ (c.toNat : Int)) (h2 : (c.toNat : Int) ≤ 57) (w : World) :
    Calls Trym.prog 3 #[.int .u8 (c.toNat : Int)] w fun e w' => e = .returned (.bool true) ∧ Grown w w' := by
  have d := isD_yes h1 h2
  have u : IntKind.u8.wrap ((c.toNat : Int) - 48) = (c.toNat : Int) - 48 := by rw [u8_mod]; omega
  have D := hide d
  clear d
  have kc : (convert 25 9 (.slice (some ⟨w.heap.size, 0, none⟩) 1 1)).run Trym.prog (w.alloc (.cells #[.int .u8 (c.toNat : Int)] 5)) = .ok (.string ⟨#[c]⟩) (w.alloc (.cells #[.int .u8 (c.toNat : Int)] 5)) := conv_one c _ _ (by simp [go_sem])
  go_enter Trym.func3, Trym.ntmps3
  go_wp2_with fail
  refine (zzisDigit_is _ true (unhide D) _).mono ?_
  rintro e w1 ⟨rfl, hw⟩
  subst hw
  go_wp2_with fail
  refine (zztime_yes _ (c.toNat : Int) (txt c) h1 h2 _).mono ?_
  rintro e w2 ⟨rfl, k, ok, hA⟩
  go_wp2
  go_ret
  exact ⟨rfl, hA.grown ((Grown.refl _).alloc _ _)⟩

set_option maxRecDepth 100000 in
set_option maxHeartbeats 1000000 in
theorem walk_low (c : UInt8) (d : isD (c.toNat : Int) = false) (h : (c.toNat : Int) < 48) (w : World) :
    Calls Trym.prog 3 #[.int .u8 (c.toNat : Int)] w fun e w' => e = .returned (.bool true) ∧ Grown w w' := by
  have l0 : 0 ≤ (c.toNat : Int) := by omega
  have l1 : (c.toNat : Int) ≤ 255 := by have := c.toNat_lt; omega
  have u : IntKind.u8.wrap ((c.toNat : Int) - 48) = (c.toNat : Int) + 208 := by rw [u8_mod]; omega
  have D := hide d
  clear d
  have kc : (convert 25 9 (.slice (some ⟨w.heap.size, 0, none⟩) 1 1)).run Trym.prog (w.alloc (.cells #[.int .u8 (c.toNat : Int)] 5)) = .ok (.string ⟨#[c]⟩) (w.alloc (.cells #[.int .u8 (c.toNat : Int)] 5)) := conv_one c _ _ (by simp [go_sem])
  go_enter Trym.func3, Trym.ntmps3
  go_wp2_with fail
  refine (zzisDigit_is _ false (unhide D) _).mono ?_
  rintro e w1 ⟨rfl, hw⟩
  subst hw
  go_wp2_with fail
  refine (zztime_no _ (c.toNat : Int) (txt c) (unhide D) _).mono ?_
  rintro e w2 ⟨rfl, k, ok, hA⟩
  go_wp2
  go_ret
  exact ⟨rfl, hA.grown ((Grown.refl _).alloc _ _)⟩

set_option maxRecDepth 100000 in
set_option maxHeartbeats 1000000 in
theorem walk_high (c : UInt8) (d : isD (c.toNat : Int) = false) (h : 57 < (c.toNat : Int)) (w : World) :
    Calls Trym.prog 3 #[.int .u8 (c.toNat : Int)] w fun e w' => e = .returned (.bool true) ∧ Grown w w' := by
  have l0 : 0 ≤ (c.toNat : Int) := by omega
  have l1 : (c.toNat : Int) ≤ 255 := by have := c.toNat_lt; omega
  have u : IntKind.u8.wrap ((c.toNat : Int) - 48) = (c.toNat : Int) - 48 := by rw [u8_mod]; omega
  have D := hide d
  clear d
  have kc : (convert 25 9 (.slice (some ⟨w.heap.size, 0, none⟩) 1 1)).run Trym.prog (w.alloc (.cells #[.int .u8 (c.toNat : Int)] 5)) = .ok (.string ⟨#[c]⟩) (w.alloc (.cells #[.int .u8 (c.toNat : Int)] 5)) := conv_one c _ _ (by simp [go_sem])
  go_enter Trym.func3, Trym.ntmps3
  go_wp2_with fail
  refine (zzisDigit_is _ false (unhide D) _).mono ?_
  rintro e w1 ⟨rfl, hw⟩
  subst hw
  go_wp2_with fail
  refine (zztime_no _ (c.toNat : Int) (txt c) (unhide D) _).mono ?_
  rintro e w2 ⟨rfl, k, ok, hA⟩
  go_wp2
  go_ret
  exact ⟨rfl, hA.grown ((Grown.refl _).alloc _ _)⟩

theorem walk (c : UInt8) (w : World) :
    Calls Trym.prog 3 #[.int .u8 (c.toNat : Int)] w fun e w' => e = .returned (.bool true) ∧ Grown w w' := by
  cases d : isD (c.toNat : Int) with
  | true => obtain ⟨h1, h2⟩ : 48 ≤ (c.toNat : Int) ∧ (c.toNat : Int) ≤ 57 := of_decide_eq_true d; exact walk_yes c h1 h2 w
  | false =>
    have n := of_decide_eq_false d
    by_cases h : (c.toNat : Int) < 48
    · exact walk_low c d h w
    · exact walk_high c d (by omega) w
end fnIsDigitAgreesWithOneDigitMinute
end Go.Proofs.Qxb6614947aMods
