/-
  The walk of FnValidNameInsertOneByte: it returns true at every input.
-/
import Derived.Test.Qxb6608932aModsJoinWalk
import Derived.BigQuiet
import Derived.Deep.QuietTactic
import Derived.Laws.IdiomStrings
namespace Go.Proofs.Qxb6608932aMods.fnValidNameInsertOneByte
open Go.RowKit
open Plain (okI okB okL vn)
theorem bytes_yes (s : ByteArray) (i c : Int) (h : s.size ≤ 1048576) (w : World) :
    Calls Trym.prog 12 #[.string s, .int .i64 i, .int .u8 c] w fun e w' => e = .returned (.bool true) ∧ w' = w := by
  go_enter Trym.func12, Trym.ntmps12
  go_wp2
  go_ret
  exact ⟨rfl, rfl⟩
theorem bytes_no (s : ByteArray) (i c : Int) (h : ¬ s.size ≤ 1048576) (w : World) :
    Calls Trym.prog 12 #[.string s, .int .i64 i, .int .u8 c] w fun e w' => e = .returned (.bool false) ∧ w' = w := by
  go_enter Trym.func12, Trym.ntmps12
  go_wp2
  go_ret
  exact ⟨rfl, rfl⟩

/-- string(one), one a slice of the one byte c. -/
theorem conv_one (c : UInt8) (w : World) (b : Nat) (h : w.cell? ⟨b, 0, none⟩ = some (.int .u8 (c.toNat : Int))) :
    (convert 25 9 (.slice (some ⟨b, 0, none⟩) 1 1)).run Trym.prog w = .ok (.string ⟨#[c]⟩) w :=
  run_convert_bytes_back (P := Trym.prog) w 25 9 5 ⟨b, 0, none⟩ 1 [c] Trym.underlying25 Trym.underlying5 Trym.underlying9 (fun j hj => by
    have : j = 0 := by simpa using hj
    subst this
    simpa [Addr.add] using h)

theorem nameChar_is (c : UInt8) (v : Bool) (hv : okB c = v) (w : World) :
    Calls Trym.prog 13 #[.int .u8 (c.toNat : Int)] w fun e w' => e = .returned (.bool v) ∧ w' = w := by
  rw [← hv]; exact nameChar_any _ w
theorem vn_single (c : UInt8) : vn (ByteArray.mk #[c]).data.toList = okB c := Plain.vn_one c

theorem grown_drewN {W w' : World} (h : Grown W w') : ∀ n, Grown W (w'.drewN n)
  | 0 => h
  | n + 1 => grown_drewN h.drew n
theorem insert_list (s : ByteArray) (n : Nat) (c : UInt8) :
    (s.extract 0 n ++ (ByteArray.mk #[c]) ++ s.extract n s.size).data.toList = s.data.toList.take n ++ [c] ++ s.data.toList.drop n := by
  have h1 : (s.extract n s.size).data.toList = s.data.toList.drop n := by
    simp only [ByteArray.data_extract, Array.toList_extract, List.extract_eq_take_drop]
    exact List.take_of_length_le (by rw [List.length_drop]; exact Nat.le_refl _)
  have h2 : (s.extract 0 n).data.toList = s.data.toList.take n := by
    simp only [ByteArray.data_extract, Array.toList_extract, List.extract_eq_take_drop]
    simp
  simp only [ByteArray.data_append, Array.toList_append, h1, h2]
theorem len_insert (s : ByteArray) (n : Nat) (c : UInt8) (h : n ≤ s.size) : (s.extract 0 n ++ (ByteArray.mk #[c]) ++ s.extract n s.size).size = s.size + 1 := by
  rw [← len_list, insert_list]
  simp
  omega
theorem vn_insert' (s : ByteArray) (n : Nat) (c : UInt8) :
    vn (s.extract 0 n ++ (ByteArray.mk #[c]) ++ s.extract n s.size).data.toList = (okB c && (decide (s.size < 64) && (decide (s.size = 0) || vn s.data.toList))) := by
  rw [insert_list]; exact Plain.vn_insert _ _ _

set_option linter.unusedSimpArgs false in
set_option maxRecDepth 100000 in
set_option maxHeartbeats 1600000 in
theorem in_empty (s : ByteArray) (n : Nat) (c : UInt8) (w0 : s.size ≤ maxLen) (hb : s.size ≤ 1048576) (h0 : ¬ 65536 < s.size) (hn : ¬ s.size < n) (e0 : s.size = 0) (w : World) :
    Calls Trym.prog 4 #[.string s, .int .i64 (n : Int), .int .u8 (c.toNat : Int)] w fun e w' => e = .returned (.bool true) ∧ Grown w w' := by
  have k1 : (convert 25 9 (.slice (some ⟨w.heap.size, 0, none⟩) 1 1)).run Trym.prog (w.alloc (.cells #[.int .u8 (c.toNat : Int)] 5)) = .ok (.string ⟨#[c]⟩) (w.alloc (.cells #[.int .u8 (c.toNat : Int)] 5)) := conv_one c _ _ (by simp [go_sem])
  have k2 : ∀ n, (convert 25 9 (.slice (some ⟨w.heap.size, 0, none⟩) 1 1)).run Trym.prog ((w.alloc (.cells #[.int .u8 (c.toNat : Int)] 5)).drewN n) = .ok (.string ⟨#[c]⟩) ((w.alloc (.cells #[.int .u8 (c.toNat : Int)] 5)).drewN n) := fun n => conv_one c _ _ (by simp [go_sem])
  have w1 : (ByteArray.mk #[c]).size ≤ maxLen := by show 1 ≤ maxLen; unfold maxLen; omega
  obtain ⟨vc, hvc⟩ : ∃ v, Hid (okB c = v) := ⟨_, hide rfl⟩
  obtain ⟨vs, hvs⟩ : ∃ v, Hid (vn s.data.toList = v) := ⟨_, hide rfl⟩
  have hn0 : (0 : Int) ≤ (n : Int) := by omega
  have hn1 : (n : Int) ≤ (s.size : Int) := by omega
  have w2 : (s.extract 0 n ++ (ByteArray.mk #[c]) ++ s.extract n s.size).size ≤ maxLen := by
    have := len_insert s n c (by omega)
    unfold maxLen; omega
  have hj := vn_insert' s n c
  rw [unhide hvc, unhide hvs] at hj
  have b0 : ((s.size : Int) == 0) = true := by rw [beq_iff_eq]; omega
  have e1 : s.size < 64 := by omega
  rw [decide_eq_true e1, decide_eq_true e0] at hj
  have hvt := hide hj
  clear hj e0
  cases vc <;> cases vs
  all_goals
    simp only [Bool.and_true, Bool.and_false, Bool.false_and, Bool.true_and, Bool.or_true, Bool.or_false, Bool.true_or, Bool.false_or] at hvt
    go_enter Trym.func4, Trym.ntmps4
    go_wp2_with (first
      | (go_at_call 12; refine (bytes_yes s _ _ hb _).mono ?_; rintro e w' ⟨rfl, rfl⟩)
      | (go_at_call_of 10 (Value.string (ByteArray.mk #[c])); refine (validName_is (ByteArray.mk #[c]) _ ((vn_single c).trans (unhide hvc)) w1 _).mono ?_; rintro e w' ⟨rfl, rfl⟩)
      | (go_at_call 13; refine (nameChar_is c _ (unhide hvc) _).mono ?_; rintro e w' ⟨rfl, rfl⟩)
      | (go_at_call_of 10 (Value.string s); refine (validName_is s _ (unhide hvs) w0 _).mono ?_; rintro e w' ⟨rfl, rfl⟩))
    go_quiet (fail)
    go_wp2_with (go_at_call 10; refine (validName_is _ _ (unhide hvt) w2 _).mono ?_; rintro e w' ⟨rfl, rfl⟩)
    go_ret
    exact ⟨rfl, grown_drewN ((Grown.refl _).alloc _ _) _⟩

set_option linter.unusedSimpArgs false in
set_option maxRecDepth 100000 in
set_option maxHeartbeats 1600000 in
theorem in_short (s : ByteArray) (n : Nat) (c : UInt8) (w0 : s.size ≤ maxLen) (hb : s.size ≤ 1048576) (h0 : ¬ 65536 < s.size) (hn : ¬ s.size < n) (e0 : ¬ s.size = 0) (e1 : s.size < 64) (w : World) :
    Calls Trym.prog 4 #[.string s, .int .i64 (n : Int), .int .u8 (c.toNat : Int)] w fun e w' => e = .returned (.bool true) ∧ Grown w w' := by
  have k1 : (convert 25 9 (.slice (some ⟨w.heap.size, 0, none⟩) 1 1)).run Trym.prog (w.alloc (.cells #[.int .u8 (c.toNat : Int)] 5)) = .ok (.string ⟨#[c]⟩) (w.alloc (.cells #[.int .u8 (c.toNat : Int)] 5)) := conv_one c _ _ (by simp [go_sem])
  have k2 : ∀ n, (convert 25 9 (.slice (some ⟨w.heap.size, 0, none⟩) 1 1)).run Trym.prog ((w.alloc (.cells #[.int .u8 (c.toNat : Int)] 5)).drewN n) = .ok (.string ⟨#[c]⟩) ((w.alloc (.cells #[.int .u8 (c.toNat : Int)] 5)).drewN n) := fun n => conv_one c _ _ (by simp [go_sem])
  have w1 : (ByteArray.mk #[c]).size ≤ maxLen := by show 1 ≤ maxLen; unfold maxLen; omega
  obtain ⟨vc, hvc⟩ : ∃ v, Hid (okB c = v) := ⟨_, hide rfl⟩
  obtain ⟨vs, hvs⟩ : ∃ v, Hid (vn s.data.toList = v) := ⟨_, hide rfl⟩
  have hn0 : (0 : Int) ≤ (n : Int) := by omega
  have hn1 : (n : Int) ≤ (s.size : Int) := by omega
  have w2 : (s.extract 0 n ++ (ByteArray.mk #[c]) ++ s.extract n s.size).size ≤ maxLen := by
    have := len_insert s n c (by omega)
    unfold maxLen; omega
  have hj := vn_insert' s n c
  rw [unhide hvc, unhide hvs] at hj
  have b0 : ((s.size : Int) == 0) = false := by rw [beq_eq_false_iff_ne]; omega
  rw [decide_eq_true e1, decide_eq_false e0] at hj
  have hvt := hide hj
  clear hj
  cases vc <;> cases vs
  all_goals
    simp only [Bool.and_true, Bool.and_false, Bool.false_and, Bool.true_and, Bool.or_true, Bool.or_false, Bool.true_or, Bool.false_or] at hvt
    go_enter Trym.func4, Trym.ntmps4
    go_wp2_with (first
      | (go_at_call 12; refine (bytes_yes s _ _ hb _).mono ?_; rintro e w' ⟨rfl, rfl⟩)
      | (go_at_call_of 10 (Value.string (ByteArray.mk #[c])); refine (validName_is (ByteArray.mk #[c]) _ ((vn_single c).trans (unhide hvc)) w1 _).mono ?_; rintro e w' ⟨rfl, rfl⟩)
      | (go_at_call 13; refine (nameChar_is c _ (unhide hvc) _).mono ?_; rintro e w' ⟨rfl, rfl⟩)
      | (go_at_call_of 10 (Value.string s); refine (validName_is s _ (unhide hvs) w0 _).mono ?_; rintro e w' ⟨rfl, rfl⟩))
    go_quiet (fail)
    go_wp2_with (go_at_call 10; refine (validName_is _ _ (unhide hvt) w2 _).mono ?_; rintro e w' ⟨rfl, rfl⟩)
    go_ret
    exact ⟨rfl, grown_drewN ((Grown.refl _).alloc _ _) _⟩

set_option linter.unusedSimpArgs false in
set_option maxRecDepth 100000 in
set_option maxHeartbeats 1600000 in
theorem in_long (s : ByteArray) (n : Nat) (c : UInt8) (w0 : s.size ≤ maxLen) (hb : s.size ≤ 1048576) (h0 : ¬ 65536 < s.size) (hn : ¬ s.size < n) (e1 : ¬ s.size < 64) (w : World) :
    Calls Trym.prog 4 #[.string s, .int .i64 (n : Int), .int .u8 (c.toNat : Int)] w fun e w' => e = .returned (.bool true) ∧ Grown w w' := by
  have k1 : (convert 25 9 (.slice (some ⟨w.heap.size, 0, none⟩) 1 1)).run Trym.prog (w.alloc (.cells #[.int .u8 (c.toNat : Int)] 5)) = .ok (.string ⟨#[c]⟩) (w.alloc (.cells #[.int .u8 (c.toNat : Int)] 5)) := conv_one c _ _ (by simp [go_sem])
  have k2 : ∀ n, (convert 25 9 (.slice (some ⟨w.heap.size, 0, none⟩) 1 1)).run Trym.prog ((w.alloc (.cells #[.int .u8 (c.toNat : Int)] 5)).drewN n) = .ok (.string ⟨#[c]⟩) ((w.alloc (.cells #[.int .u8 (c.toNat : Int)] 5)).drewN n) := fun n => conv_one c _ _ (by simp [go_sem])
  have w1 : (ByteArray.mk #[c]).size ≤ maxLen := by show 1 ≤ maxLen; unfold maxLen; omega
  obtain ⟨vc, hvc⟩ : ∃ v, Hid (okB c = v) := ⟨_, hide rfl⟩
  obtain ⟨vs, hvs⟩ : ∃ v, Hid (vn s.data.toList = v) := ⟨_, hide rfl⟩
  have hn0 : (0 : Int) ≤ (n : Int) := by omega
  have hn1 : (n : Int) ≤ (s.size : Int) := by omega
  have w2 : (s.extract 0 n ++ (ByteArray.mk #[c]) ++ s.extract n s.size).size ≤ maxLen := by
    have := len_insert s n c (by omega)
    unfold maxLen; omega
  have hj := vn_insert' s n c
  rw [unhide hvc, unhide hvs] at hj
  have b0 : ((s.size : Int) == 0) = false := by rw [beq_eq_false_iff_ne]; omega
  have d1 : decide ((s.size : Int) < 64) = false := decide_eq_false (by omega)
  rw [decide_eq_false e1] at hj
  have hvt := hide hj
  clear hj
  cases vc <;> cases vs
  all_goals
    simp only [Bool.and_true, Bool.and_false, Bool.false_and, Bool.true_and, Bool.or_true, Bool.or_false, Bool.true_or, Bool.false_or] at hvt
    go_enter Trym.func4, Trym.ntmps4
    go_wp2_with (first
      | (go_at_call 12; refine (bytes_yes s _ _ hb _).mono ?_; rintro e w' ⟨rfl, rfl⟩)
      | (go_at_call_of 10 (Value.string (ByteArray.mk #[c])); refine (validName_is (ByteArray.mk #[c]) _ ((vn_single c).trans (unhide hvc)) w1 _).mono ?_; rintro e w' ⟨rfl, rfl⟩)
      | (go_at_call 13; refine (nameChar_is c _ (unhide hvc) _).mono ?_; rintro e w' ⟨rfl, rfl⟩)
      | (go_at_call_of 10 (Value.string s); refine (validName_is s _ (unhide hvs) w0 _).mono ?_; rintro e w' ⟨rfl, rfl⟩))
    go_quiet (fail)
    go_wp2_with (go_at_call 10; refine (validName_is _ _ (unhide hvt) w2 _).mono ?_; rintro e w' ⟨rfl, rfl⟩)
    go_ret
    exact ⟨rfl, grown_drewN ((Grown.refl _).alloc _ _) _⟩

set_option maxRecDepth 100000 in
set_option maxHeartbeats 1000000 in
theorem walk (s : ByteArray) (i : Int) (c : UInt8) (w0 : s.size ≤ maxLen) (w : World) :
    Calls Trym.prog 4 #[.string s, .int .i64 i, .int .u8 (c.toNat : Int)] w fun e w' => e = .returned (.bool true) ∧ Grown w w' := by
  by_cases hb : s.size ≤ 1048576
  · by_cases h0 : 65536 < s.size
    · go_enter Trym.func4, Trym.ntmps4
      go_wp2_with (go_at_call 12; refine (bytes_yes s _ _ hb _).mono ?_; rintro e w' ⟨rfl, rfl⟩)
      go_ret
      exact ⟨rfl, Grown.refl _⟩
    · have k1 : (convert 25 9 (.slice (some ⟨w.heap.size, 0, none⟩) 1 1)).run Trym.prog (w.alloc (.cells #[.int .u8 (c.toNat : Int)] 5)) = .ok (.string ⟨#[c]⟩) (w.alloc (.cells #[.int .u8 (c.toNat : Int)] 5)) := conv_one c _ _ (by simp [go_sem])
      have k2 : ∀ n, (convert 25 9 (.slice (some ⟨w.heap.size, 0, none⟩) 1 1)).run Trym.prog ((w.alloc (.cells #[.int .u8 (c.toNat : Int)] 5)).drewN n) = .ok (.string ⟨#[c]⟩) ((w.alloc (.cells #[.int .u8 (c.toNat : Int)] 5)).drewN n) := fun n => conv_one c _ _ (by simp [go_sem])
      have w1 : (ByteArray.mk #[c]).size ≤ maxLen := by show 1 ≤ maxLen; unfold maxLen; omega
      obtain ⟨vc, hvc⟩ : ∃ v, Hid (okB c = v) := ⟨_, hide rfl⟩
      by_cases hi : i < 0
      · cases vc
        all_goals
          go_enter Trym.func4, Trym.ntmps4
          go_wp2_with (first
            | (go_at_call 12; refine (bytes_yes s _ _ hb _).mono ?_; rintro e w' ⟨rfl, rfl⟩)
            | (go_at_call_of 10 (Value.string (ByteArray.mk #[c])); refine (validName_is (ByteArray.mk #[c]) _ ((vn_single c).trans (unhide hvc)) w1 _).mono ?_; rintro e w' ⟨rfl, rfl⟩)
            | (go_at_call 13; refine (nameChar_is c _ (unhide hvc) _).mono ?_; rintro e w' ⟨rfl, rfl⟩))
          go_ret
          exact ⟨rfl, (Grown.refl _).alloc _ _⟩
      obtain ⟨n, rfl⟩ := Int.eq_ofNat_of_zero_le (Int.not_lt.1 hi)
      by_cases hn : s.size < n
      · cases vc
        all_goals
          go_enter Trym.func4, Trym.ntmps4
          go_wp2_with (first
            | (go_at_call 12; refine (bytes_yes s _ _ hb _).mono ?_; rintro e w' ⟨rfl, rfl⟩)
            | (go_at_call_of 10 (Value.string (ByteArray.mk #[c])); refine (validName_is (ByteArray.mk #[c]) _ ((vn_single c).trans (unhide hvc)) w1 _).mono ?_; rintro e w' ⟨rfl, rfl⟩)
            | (go_at_call 13; refine (nameChar_is c _ (unhide hvc) _).mono ?_; rintro e w' ⟨rfl, rfl⟩))
          go_ret
          exact ⟨rfl, (Grown.refl _).alloc _ _⟩
      by_cases e0 : s.size = 0
      · exact in_empty s n c w0 hb h0 hn e0 w
      by_cases e1 : s.size < 64
      · exact in_short s n c w0 hb h0 hn e0 e1 w
      · exact in_long s n c w0 hb h0 hn e1 w
  · go_enter Trym.func4, Trym.ntmps4
    go_wp2_with (go_at_call 12; refine (bytes_no s _ _ hb _).mono ?_; rintro e w' ⟨rfl, rfl⟩)
    go_ret
    exact ⟨rfl, Grown.refl _⟩
end Go.Proofs.Qxb6608932aMods.fnValidNameInsertOneByte
