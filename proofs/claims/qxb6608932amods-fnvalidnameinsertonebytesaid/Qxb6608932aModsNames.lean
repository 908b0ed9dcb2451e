/-
  The walks of the name functions: validName, ZZvalidName, zzNameChar, zzNameSpec: each computes a plain function of the bytes.
-/
import Derived.Test.Qxb6608932aModsRows
import Derived.Test.Qxb6608932aModsPlain
import Derived.WalkKit
import Derived.WalkSpells
namespace Go.Proofs.Qxb6608932aMods
open Go.RowKit
open Plain (okI okB okL vn)
theorem hide {p : Prop} (h : p) : Hid p := h
theorem unhide {p : Prop} (h : Hid p) : p := h

theorem ret_bool {a b : Bool} (h : a = b) : Ending.returned (.bool a) = .returned (.bool b) := by rw [h]
theorem take_snoc (s : ByteArray) (k : Nat) (h : k < s.size) : s.data.toList.take (k + 1) = s.data.toList.take k ++ [s[k]] := by
  rw [List.take_succ_eq_append_getElem (by simpa using h)]; rfl
theorem take_all (s : ByteArray) (k : Nat) (h : k = s.size) : s.data.toList.take k = s.data.toList := by
  rw [List.take_of_length_le]; rw [h]; exact Nat.le_refl _
theorem len_list (s : ByteArray) : s.data.toList.length = s.size := rfl
theorem okB_of (c : UInt8) (h : ((97 ≤ (c.toNat : Int) ∧ (c.toNat : Int) ≤ 122) ∨ (48 ≤ (c.toNat : Int) ∧ (c.toNat : Int) ≤ 57) ∨ (c.toNat : Int) = 45 ∨ (c.toNat : Int) = 95)) : okB c = true := by
  unfold okB okI; exact decide_eq_true h
theorem okB_not (c : UInt8) (h : ¬ ((97 ≤ (c.toNat : Int) ∧ (c.toNat : Int) ≤ 122) ∨ (48 ≤ (c.toNat : Int) ∧ (c.toNat : Int) ≤ 57) ∨ (c.toNat : Int) = 45 ∨ (c.toNat : Int) = 95)) : okB c = false := by
  unfold okB okI; exact decide_eq_false h
theorem okL_step (s : ByteArray) (k : Nat) (h : k < s.size) (h1 : okL (s.data.toList.take k) = true) (h2 : okB s[k] = true) : okL (s.data.toList.take (k + 1)) = true := by
  rw [take_snoc s k h, Plain.okL_snoc, h1, h2]; rfl
theorem okL_stop (s : ByteArray) (k : Nat) (h : k < s.size) (h2 : okB s[k] = false) : okL s.data.toList = false :=
  Plain.okL_of_bad (l := s.data.toList) (k := k) h h2

set_option maxHeartbeats 400000 in
theorem validName_any (s : ByteArray) (w : World) (hs : s.size ≤ maxLen) :
    Calls Trym.prog 26 #[.string s] w fun e w' => e = .returned (.bool (vn s.data.toList)) ∧ w' = w := by
  unfold maxLen at hs
  by_cases h1 : s.size < 1
  · have hv := Plain.vn_short (l := s.data.toList) h1
    have HV := hide hv
    clear hv
    go_enter Trym.func26, Trym.ntmps26
    go_wp2
    go_ret
    exact ⟨ret_bool (unhide HV).symm, rfl⟩
  by_cases h2 : 64 < s.size
  · have hv := Plain.vn_long (l := s.data.toList) h2
    have HV := hide hv
    clear hv
    go_enter Trym.func26, Trym.ntmps26
    go_wp2
    go_ret
    exact ⟨ret_bool (unhide HV).symm, rfl⟩
  have hv := Plain.vn_mid (l := s.data.toList) (Nat.le_of_not_lt h1) (Nat.le_of_not_lt h2)
  have HV := hide hv
  clear hv
  go_enter Trym.func26, Trym.ntmps26
  go_wp2
  go_loop [3] (fun i => ∃ k : Nat, k ≤ s.size ∧ i = .int .i64 k ∧ Hid (okL (s.data.toList.take k) = true)) (fun i => s.size - (intOf i).toNat)
  case atStart => exact ⟨0, Nat.zero_le _, rfl, hide rfl⟩
  case round =>
    obtain ⟨k, hk, rfl, hok⟩ := hrel
    by_cases hlt : k < s.size
    · by_cases hc : ((97 ≤ (s[k].toNat : Int) ∧ (s[k].toNat : Int) ≤ 122) ∨ (48 ≤ (s[k].toNat : Int) ∧ (s[k].toNat : Int) ≤ 57) ∨ (s[k].toNat : Int) = 45 ∨ (s[k].toNat : Int) = 95)
      · have HS := hide (okL_step s k hlt (unhide hok) (okB_of _ hc))
        rcases hc with ⟨a1, a2⟩ | ⟨a1, a2⟩ | a1 | a1
        all_goals
          go_wp2
          go_round
          case rel => exact ⟨k + 1, by omega, by go_num, HS⟩
          case measure => simp [intOf]; omega
      · have HS := hide (okL_stop s k hlt (okB_not _ hc))
        have hc' : 122 < (s[k].toNat : Int) ∨ ((s[k].toNat : Int) < 48 ∧ (s[k].toNat : Int) ≠ 45) ∨ (57 < (s[k].toNat : Int) ∧ (s[k].toNat : Int) < 97 ∧ (s[k].toNat : Int) ≠ 95) := by omega
        have b1 : ((s[k].toNat : Int) != 45) = true := by rw [bne_iff_ne]; omega
        have b2 : ((s[k].toNat : Int) != 95) = true := by rw [bne_iff_ne]; omega
        clear hc
        rcases hc' with a1 | ⟨a1, a2⟩ | ⟨a1, a2, a3⟩
        all_goals
          go_wp2
          go_ret
          exact ⟨ret_bool ((unhide HV).trans (unhide HS)).symm, rfl⟩
    · have hke : k = s.size := by omega
      have HE := hide (unhide hok)
      rw [take_all s k hke] at HE
      go_wp2
      go_ret
      exact ⟨ret_bool ((unhide HV).trans (unhide HE)).symm, rfl⟩

theorem zzvalidName_any (s : ByteArray) (w : World) (hs : s.size ≤ maxLen) :
    Calls Trym.prog 10 #[.string s] w fun e w' => e = .returned (.bool (vn s.data.toList)) ∧ w' = w := by
  go_enter Trym.func10, Trym.ntmps10
  go_wp2_with (go_at_call 26; refine (validName_any s _ hs).mono ?_; rintro e w' ⟨rfl, rfl⟩)
  go_ret
  exact ⟨rfl, rfl⟩

end Go.Proofs.Qxb6608932aMods
