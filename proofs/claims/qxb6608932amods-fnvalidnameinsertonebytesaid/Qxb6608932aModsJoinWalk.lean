/-
  The walk of FnValidNameJoin: it returns true at every input.
-/
import Derived.Test.Qxb6608932aModsChars
import Derived.Deep.RegionWith
namespace Go.Proofs.Qxb6608932aMods
open Go.RowKit
open Plain (okI okB okL vn)

theorem validName_is (s : ByteArray) (v : Bool) (hv : vn s.data.toList = v) (hs : s.size ≤ maxLen) (w : World) :
    Calls Trym.prog 10 #[.string s] w fun e w' => e = .returned (.bool v) ∧ w' = w := by
  rw [← hv]; exact zzvalidName_any s w hs
theorem nameSpec_is (s : ByteArray) (v : Bool) (hv : vn s.data.toList = v) (hs : s.size ≤ maxLen) (w : World) :
    Calls Trym.prog 11 #[.string s] w fun e w' => e = .returned (.bool v) ∧ w' = w := by
  rw [← hv]; exact nameSpec_any s w hs

namespace fnValidNameJoin
theorem bytes_yes (a b : ByteArray) (h : a.size + b.size ≤ 1048576) (w : World) :
    Calls Trym.prog 9 #[.string a, .string b] w fun e w' => e = .returned (.bool true) ∧ w' = w := by
  go_enter Trym.func9, Trym.ntmps9
  go_wp2
  go_ret
  exact ⟨rfl, rfl⟩
theorem bytes_no (a b : ByteArray) (ha : a.size ≤ 9223372036854775807) (hb : b.size ≤ 9223372036854775807) (h : ¬ a.size + b.size ≤ 1048576) (w : World) :
    Calls Trym.prog 9 #[.string a, .string b] w fun e w' => e = .returned (.bool false) ∧ w' = w := by
  by_cases h1 : 1048576 < a.size
  · go_enter Trym.func9, Trym.ntmps9
    go_wp2
    go_ret
    exact ⟨rfl, rfl⟩
  · by_cases h2 : 1048576 < b.size
    · go_enter Trym.func9, Trym.ntmps9
      go_wp2
      go_ret
      exact ⟨rfl, rfl⟩
    · go_enter Trym.func9, Trym.ntmps9
      go_wp2
      go_ret
      exact ⟨rfl, rfl⟩

theorem join_list (a b : ByteArray) : (a ++ b).data.toList = a.data.toList ++ b.data.toList := by simp [ByteArray.data_append]

set_option linter.unusedSimpArgs false in
set_option maxHeartbeats 1000000 in
theorem walk (a0 : ByteArray) (a1 : ByteArray) (w0 : a0.size ≤ maxLen) (w1 : a1.size ≤ maxLen) (w : World) :
    Calls Trym.prog 3 #[.string a0, .string a1] w fun e w' => e = .returned (.bool true) ∧ Grown w w' := by
  have m0 : a0.size ≤ 9223372036854775807 := w0
  have m1 : a1.size ≤ 9223372036854775807 := w1
  by_cases hb : a0.size + a1.size ≤ 1048576
  · by_cases h0 : 65536 < a0.size
    · go_enter Trym.func3, Trym.ntmps3
      go_wp2_with (go_at_call 9; refine (bytes_yes a0 a1 hb _).mono ?_; rintro e w' ⟨rfl, rfl⟩)
      go_ret
      exact ⟨rfl, Grown.refl _⟩
    by_cases h1 : 65536 < a1.size
    · go_enter Trym.func3, Trym.ntmps3
      go_wp2_with (go_at_call 9; refine (bytes_yes a0 a1 hb _).mono ?_; rintro e w' ⟨rfl, rfl⟩)
      go_ret
      exact ⟨rfl, Grown.refl _⟩
    have w2 : (a0 ++ a1).size ≤ maxLen := by rw [ByteArray.size_append]; unfold maxLen; omega
    obtain ⟨va, hva⟩ : ∃ v, Hid (vn a0.data.toList = v) := ⟨_, hide rfl⟩
    obtain ⟨vb, hvb⟩ : ∃ v, Hid (vn a1.data.toList = v) := ⟨_, hide rfl⟩
    by_cases e0 : a0.size = 0
    · have b0 : ((a0.size : Int) == 0) = true := by rw [beq_iff_eq]; omega
      cases va <;> cases vb
      all_goals
        go_enter Trym.func3, Trym.ntmps3
        go_wp2_with (first
          | (go_at_call 9; refine (bytes_yes a0 a1 hb _).mono ?_; rintro e w' ⟨rfl, rfl⟩)
          | (go_at_call_of 10 (Value.string a0); refine (validName_is a0 _ (unhide hva) w0 _).mono ?_; rintro e w' ⟨rfl, rfl⟩)
          | (go_at_call_of 10 (Value.string a1); refine (validName_is a1 _ (unhide hvb) w1 _).mono ?_; rintro e w' ⟨rfl, rfl⟩)
          | (go_at_call_of 11 (Value.string a0); refine (nameSpec_is a0 _ (unhide hva) w0 _).mono ?_; rintro e w' ⟨rfl, rfl⟩)
          | (go_at_call_of 11 (Value.string a1); refine (nameSpec_is a1 _ (unhide hvb) w1 _).mono ?_; rintro e w' ⟨rfl, rfl⟩))
        go_ret
        exact ⟨rfl, Grown.refl _⟩
    have b0 : ((a0.size : Int) == 0) = false := by rw [beq_eq_false_iff_ne]; omega
    by_cases e1 : a1.size = 0
    · have b1 : ((a1.size : Int) == 0) = true := by rw [beq_iff_eq]; omega
      cases va <;> cases vb
      all_goals
        go_enter Trym.func3, Trym.ntmps3
        go_wp2_with (first
          | (go_at_call 9; refine (bytes_yes a0 a1 hb _).mono ?_; rintro e w' ⟨rfl, rfl⟩)
          | (go_at_call_of 10 (Value.string a0); refine (validName_is a0 _ (unhide hva) w0 _).mono ?_; rintro e w' ⟨rfl, rfl⟩)
          | (go_at_call_of 10 (Value.string a1); refine (validName_is a1 _ (unhide hvb) w1 _).mono ?_; rintro e w' ⟨rfl, rfl⟩)
          | (go_at_call_of 11 (Value.string a0); refine (nameSpec_is a0 _ (unhide hva) w0 _).mono ?_; rintro e w' ⟨rfl, rfl⟩)
          | (go_at_call_of 11 (Value.string a1); refine (nameSpec_is a1 _ (unhide hvb) w1 _).mono ?_; rintro e w' ⟨rfl, rfl⟩))
        go_ret
        exact ⟨rfl, Grown.refl _⟩
    have b1 : ((a1.size : Int) == 0) = false := by rw [beq_eq_false_iff_ne]; omega
    have hj := Plain.vn_join a0.data.toList a1.data.toList (Nat.one_le_iff_ne_zero.2 e0) (Nat.one_le_iff_ne_zero.2 e1)
    rw [unhide hva, unhide hvb, ← join_list, len_list, len_list] at hj
    by_cases e2 : a0.size + a1.size ≤ 64
    · have d2 : decide ((a0.size : Int) + (a1.size : Int) ≤ 64) = true := decide_eq_true (by omega)
      cases va <;> cases vb
      all_goals
        have hvc := hide hj
        simp only [e2, decide_true, Bool.and_true, Bool.and_false, Bool.false_and, Bool.true_and] at hvc
        clear hj
        go_enter Trym.func3, Trym.ntmps3
        go_wp2_with (first
          | (go_at_call 9; refine (bytes_yes a0 a1 hb _).mono ?_; rintro e w' ⟨rfl, rfl⟩)
          | (go_at_call_of 10 (Value.string a0); refine (validName_is a0 _ (unhide hva) w0 _).mono ?_; rintro e w' ⟨rfl, rfl⟩)
          | (go_at_call_of 10 (Value.string a1); refine (validName_is a1 _ (unhide hvb) w1 _).mono ?_; rintro e w' ⟨rfl, rfl⟩)
          | (go_at_call_of 11 (Value.string a0); refine (nameSpec_is a0 _ (unhide hva) w0 _).mono ?_; rintro e w' ⟨rfl, rfl⟩)
          | (go_at_call_of 11 (Value.string a1); refine (nameSpec_is a1 _ (unhide hvb) w1 _).mono ?_; rintro e w' ⟨rfl, rfl⟩)
          | (go_at_call_of 10 (Value.string (a0 ++ a1)); refine (validName_is (a0 ++ a1) _ (unhide hvc) w2 _).mono ?_; rintro e w' ⟨rfl, rfl⟩))
        go_ret
        exact ⟨rfl, Grown.refl _⟩
    · have d2 : decide ((a0.size : Int) + (a1.size : Int) ≤ 64) = false := decide_eq_false (by omega)
      cases va <;> cases vb
      all_goals
        have hvc := hide hj
        simp only [e2, decide_false, Bool.and_true, Bool.and_false, Bool.false_and, Bool.true_and] at hvc
        clear hj
        go_enter Trym.func3, Trym.ntmps3
        go_wp2_with (first
          | (go_at_call 9; refine (bytes_yes a0 a1 hb _).mono ?_; rintro e w' ⟨rfl, rfl⟩)
          | (go_at_call_of 10 (Value.string a0); refine (validName_is a0 _ (unhide hva) w0 _).mono ?_; rintro e w' ⟨rfl, rfl⟩)
          | (go_at_call_of 10 (Value.string a1); refine (validName_is a1 _ (unhide hvb) w1 _).mono ?_; rintro e w' ⟨rfl, rfl⟩)
          | (go_at_call_of 11 (Value.string a0); refine (nameSpec_is a0 _ (unhide hva) w0 _).mono ?_; rintro e w' ⟨rfl, rfl⟩)
          | (go_at_call_of 11 (Value.string a1); refine (nameSpec_is a1 _ (unhide hvb) w1 _).mono ?_; rintro e w' ⟨rfl, rfl⟩)
          | (go_at_call_of 10 (Value.string (a0 ++ a1)); refine (validName_is (a0 ++ a1) _ (unhide hvc) w2 _).mono ?_; rintro e w' ⟨rfl, rfl⟩))
        go_ret
        exact ⟨rfl, Grown.refl _⟩
  · go_enter Trym.func3, Trym.ntmps3
    go_wp2_with (go_at_call 9; refine (bytes_no a0 a1 m0 m1 hb _).mono ?_; rintro e w' ⟨rfl, rfl⟩)
    go_ret
    exact ⟨rfl, Grown.refl _⟩
end fnValidNameJoin
end Go.Proofs.Qxb6608932aMods
