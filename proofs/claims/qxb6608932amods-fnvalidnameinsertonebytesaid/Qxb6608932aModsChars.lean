/-
  The walks of zzNameChar and zzNameSpec.
-/
import Derived.Test.Qxb6608932aModsNames
namespace Go.Proofs.Qxb6608932aMods
open Go.RowKit
open Plain (okI okB okL vn)

/-- The alphabet's string, as the walk spells it. -/
theorem at_index (k : Nat) (h : k < 38) : (((ByteArray.mk #[97, 98, 99, 100, 101, 102, 103, 104, 105, 106, 107, 108, 109, 110, 111, 112, 113, 114, 115, 116, 117, 118, 119, 120, 121, 122, 48, 49, 50, 51, 52, 53, 54, 55, 56, 57, 45, 95])[k]'h).toNat : Int) = Plain.at' k := by
  unfold Plain.at'
  rw [List.getElem?_eq_getElem (by simpa [Plain.chars] using h)]
  rfl
theorem char_yes {k : Nat} (h : k < 38) {c : Int} (e : ((((ByteArray.mk #[97, 98, 99, 100, 101, 102, 103, 104, 105, 106, 107, 108, 109, 110, 111, 112, 113, 114, 115, 116, 117, 118, 119, 120, 121, 122, 48, 49, 50, 51, 52, 53, 54, 55, 56, 57, 45, 95])[k]'h).toNat : Int) == c) = true) : okI c = true := by
  rw [at_index k h, beq_iff_eq] at e
  rw [← e]; exact Plain.ok_at k h
theorem char_no {k : Nat} (h : k < 38) {c : Int} (e : ((((ByteArray.mk #[97, 98, 99, 100, 101, 102, 103, 104, 105, 106, 107, 108, 109, 110, 111, 112, 113, 114, 115, 116, 117, 118, 119, 120, 121, 122, 48, 49, 50, 51, 52, 53, 54, 55, 56, 57, 45, 95])[k]'h).toNat : Int) == c) = false) (hno : ∀ j, j < k → Plain.at' j ≠ c) : ∀ j, j < k + 1 → Plain.at' j ≠ c := by
  rw [at_index k h, beq_eq_false_iff_ne] at e
  intro j hj
  by_cases hjk : j = k
  · rw [hjk]; exact e
  · exact hno j (by omega)
theorem char_none {k : Nat} (h : ¬ k < 38) {c : Int} (hno : ∀ j, j < k → Plain.at' j ≠ c) : okI c = false := by
  cases hc : okI c with
  | false => rfl
  | true => obtain ⟨j, hj, e⟩ := Plain.at_of_ok c hc; exact absurd e (hno j (by omega))

set_option maxHeartbeats 400000 in
theorem nameChar_any (c : Int) (w : World) :
    Calls Trym.prog 13 #[.int .u8 c] w fun e w' => e = .returned (.bool (okI c)) ∧ w' = w := by
  go_enter Trym.func13, Trym.ntmps13
  go_wp2
  go_loop [3] (fun i => ∃ k : Nat, k ≤ 38 ∧ i = .int .i64 k ∧ Hid (∀ j, j < k → Plain.at' j ≠ c)) (fun i => 38 - (intOf i).toNat)
  case atStart => exact ⟨0, Nat.zero_le _, rfl, hide (fun j hj => absurd hj (Nat.not_lt_zero j))⟩
  case round =>
    obtain ⟨k, hk, rfl, hno⟩ := hrel
    by_cases hlt : k < 38
    · go_wp2
      · go_ret
        exact ⟨ret_bool (char_yes hlt ‹_›).symm, rfl⟩
      · go_round
        case rel => exact ⟨k + 1, by omega, by go_num, hide (char_no hlt ‹_› (unhide hno))⟩
        case measure => simp [intOf]; omega
    · go_wp2
      go_ret
      exact ⟨ret_bool (char_none hlt (unhide hno)).symm, rfl⟩

set_option maxHeartbeats 400000 in
theorem nameSpec_any (s : ByteArray) (w : World) (hs : s.size ≤ maxLen) :
    Calls Trym.prog 11 #[.string s] w fun e w' => e = .returned (.bool (vn s.data.toList)) ∧ w' = w := by
  unfold maxLen at hs
  by_cases h1 : s.size < 1
  · have hv := Plain.vn_short (l := s.data.toList) h1
    have HV := hide hv
    clear hv
    have h0 : ((s.size : Int) == 0) = true := by rw [beq_iff_eq]; omega
    go_enter Trym.func11, Trym.ntmps11
    go_wp2
    go_ret
    exact ⟨ret_bool (unhide HV).symm, rfl⟩
  have h0 : ((s.size : Int) == 0) = false := by rw [beq_eq_false_iff_ne]; omega
  by_cases h2 : 64 < s.size
  · have hv := Plain.vn_long (l := s.data.toList) h2
    have HV := hide hv
    clear hv
    go_enter Trym.func11, Trym.ntmps11
    go_wp2
    go_ret
    exact ⟨ret_bool (unhide HV).symm, rfl⟩
  have hv := Plain.vn_mid (l := s.data.toList) (Nat.le_of_not_lt h1) (Nat.le_of_not_lt h2)
  have HV := hide hv
  clear hv
  go_enter Trym.func11, Trym.ntmps11
  go_wp2
  go_loop [3] (fun i => ∃ k : Nat, k ≤ s.size ∧ i = .int .i64 k ∧ Hid (okL (s.data.toList.take k) = true)) (fun i => s.size - (intOf i).toNat)
  case atStart => exact ⟨0, Nat.zero_le _, rfl, hide rfl⟩
  case round =>
    obtain ⟨k, hk, rfl, hok⟩ := hrel
    by_cases hlt : k < s.size
    · cases hc : okI (s[k].toNat : Int) with
      | true =>
        have HS := hide (okL_step s k hlt (unhide hok) hc)
        go_wp2_with (go_at_call 13; refine (nameChar_any _ _).mono ?_; rintro e w' ⟨rfl, rfl⟩)
        go_round
        case rel => exact ⟨k + 1, by omega, by go_num, HS⟩
        case measure => simp [intOf]; omega
      | false =>
        have HS := hide (okL_stop s k hlt hc)
        go_wp2_with (go_at_call 13; refine (nameChar_any _ _).mono ?_; rintro e w' ⟨rfl, rfl⟩)
        go_ret
        exact ⟨ret_bool ((unhide HV).trans (unhide HS)).symm, rfl⟩
    · have hke : k = s.size := by omega
      have HE := hide (unhide hok)
      rw [take_all s k hke] at HE
      go_wp2
      go_ret
      exact ⟨ret_bool ((unhide HV).trans (unhide HE)).symm, rfl⟩

end Go.Proofs.Qxb6608932aMods
