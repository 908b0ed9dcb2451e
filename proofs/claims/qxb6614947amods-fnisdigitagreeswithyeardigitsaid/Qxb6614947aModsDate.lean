/-
  The walks of daysIn, parseDateTime and ZZparseDateTime over a text of ten bytes: 1, 9, 9, c, -, 0, 1, -, 0, 1.
-/
import Derived.Test.Qxb6614947aModsTime
namespace Go.Proofs.Qxb6614947aMods
open Go.RowKit
open Plain (bt isD run val sk)

/-- The text. -/
structure Txt10 (s : ByteArray) (c : Int) : Prop where
  size : s.size = 10
  b0 : bt s 0 = 49
  b1 : bt s 1 = 57
  b2 : bt s 2 = 57
  b3 : bt s 3 = c
  b4 : bt s 4 = 45
  b5 : bt s 5 = 48
  b6 : bt s 6 = 49
  b7 : bt s 7 = 45
  b8 : bt s 8 = 48
  b9 : bt s 9 = 49

theorem y_run {s : ByteArray} {c : Int} (h : Txt10 s c) (d : isD c = true) : run s 0 4 = 4 := by
  rw [run_yes (by rw [h.size]; decide) (by rw [h.b0]; rfl), run_yes (by rw [h.size]; decide) (by rw [h.b1]; rfl), run_yes (by rw [h.size]; decide) (by rw [h.b2]; rfl), run_yes (by rw [h.size]; decide) (by rw [h.b3]; exact d)]; rfl
theorem y_val {s : ByteArray} {c : Int} (h : Txt10 s c) (d : isD c = true) : val s 0 (run s 0 4) = c + 1942 := by
  rw [y_run h d]; simp only [val, h.b0, h.b1, h.b2, h.b3, Nat.zero_add]; omega
theorem y_run3 {s : ByteArray} {c : Int} (h : Txt10 s c) (d : isD c = false) : run s 0 4 = 3 := by
  rw [run_yes (by rw [h.size]; decide) (by rw [h.b0]; rfl), run_yes (by rw [h.size]; decide) (by rw [h.b1]; rfl), run_yes (by rw [h.size]; decide) (by rw [h.b2]; rfl), run_no (by rw [h.b3]; exact d)]
theorem m_run {s : ByteArray} {c : Int} (h : Txt10 s c) : run s 5 2 = 2 := by
  rw [run_yes (by rw [h.size]; decide) (by rw [h.b5]; rfl), run_yes (by rw [h.size]; decide) (by rw [h.b6]; rfl)]; rfl
theorem m_val {s : ByteArray} {c : Int} (h : Txt10 s c) : val s 5 (run s 5 2) = 1 := by
  rw [m_run h]; simp [val, h.b5, h.b6]
theorem d_run {s : ByteArray} {c : Int} (h : Txt10 s c) : run s 8 2 = 2 := by
  rw [run_yes (by rw [h.size]; decide) (by rw [h.b8]; rfl), run_yes (by rw [h.size]; decide) (by rw [h.b9]; rfl)]; rfl
theorem d_val {s : ByteArray} {c : Int} (h : Txt10 s c) : val s 8 (run s 8 2) = 1 := by
  rw [d_run h]; simp [val, h.b8, h.b9]

/-- The days of January. -/
theorem daysIn_jan (y : Int) (w : World) : Calls Trym.prog 16 #[.int .i64 1, .int .i64 y] w fun e w' => e = .returned (.int .i64 31) ∧ w' = w := by
  go_enter Trym.func16, Trym.ntmps16
  go_wp2
  go_ret
  exact ⟨rfl, rfl⟩

set_option maxRecDepth 100000 in
set_option maxHeartbeats 1000000 in
theorem date_yes (s : ByteArray) (c : Int) (h : Txt10 s c) (h1 : 48 ≤ c) (h2 : c ≤ 57) (w : World) :
    Calls Trym.prog 10 #[.string s] w fun e w' => e = .returned (.tuple #[.int .i64 (((c + 1942) * 416 + 33) * 86400000000), .bool true]) ∧ ∃ k ok, At w' w s k ok := by
  have d := isD_yes h1 h2
  have hs : s.size ≤ 1000 := by rw [h.size]; decide
  have hsz : (s.size : Int) = 10 := by rw [h.size]; rfl
  have HSZ := hide hsz
  have l10 : ¬ ((10 : Int) < (s.size : Int)) := by omega
  clear hsz
  have T := hide h
  have D := hide d
  clear h d
  have K4 : Hid (sk s 4 45 = true) := hide (sk_yes (by rw [(unhide T).size]; decide) (unhide T).b4)
  have K7 : Hid (sk s 7 45 = true) := hide (sk_yes (by rw [(unhide T).size]; decide) (unhide T).b7)
  go_enter Trym.func10, Trym.ntmps10
  go_wp2_with fail
  refine (number_is _ w s 0 true 4 4 (c + 1942) 4 true hs (Nat.zero_le _) (by decide) (by decide) (At.mk _ _ 0 _ 0) (y_val (unhide T) (unhide D)) (by show 0 + run s 0 4 = 4; rw [y_run (unhide T) (unhide D)]) (by show (true && decide ((4 : Int) ≤ (run s 0 4 : Int))) = true; rw [y_run (unhide T) (unhide D)]; rfl)).mono ?_
  rintro e w1 ⟨rfl, hA1⟩
  go_wp2_with fail
  refine (expect_is _ w s 4 true 45 5 true hs hA1 (nxt_yes (unhide K4)) (by rw [unhide K4]; rfl)).mono ?_
  rintro e w2 ⟨rfl, hA2⟩
  go_wp2_with fail
  refine (number_is _ w s 5 true 1 2 1 7 true hs (by rw [(unhide T).size]; decide) (by decide) (by decide) hA2 (m_val (unhide T)) (by show 5 + run s 5 2 = 7; rw [m_run (unhide T)]) (by show (true && decide ((1 : Int) ≤ (run s 5 2 : Int))) = true; rw [m_run (unhide T)]; rfl)).mono ?_
  rintro e w3 ⟨rfl, hA3⟩
  go_wp2_with fail
  refine (expect_is _ w s 7 true 45 8 true hs hA3 (nxt_yes (unhide K7)) (by rw [unhide K7]; rfl)).mono ?_
  rintro e w4 ⟨rfl, hA4⟩
  go_wp2_with fail
  refine (number_is _ w s 8 true 1 2 1 10 true hs (by rw [(unhide T).size]; decide) (by decide) (by decide) hA4 (d_val (unhide T)) (by show 8 + run s 8 2 = 10; rw [d_run (unhide T)]) (by show (true && decide ((1 : Int) ≤ (run s 8 2 : Int))) = true; rw [d_run (unhide T)]; rfl)).mono ?_
  rintro e w5 ⟨rfl, n5, rfl⟩
  go_wp2_with fail
  refine (done_ok _ w s 10 hs (At.mk _ _ 10 _ _)).mono ?_
  rintro e w6 ⟨rfl, hA6⟩
  rw [(unhide T).size]
  go_wp2_with (go_at_call 16; refine (daysIn_jan _ _).mono ?_; rintro e w' ⟨rfl, rfl⟩)
  go_ret2
  exact ⟨ret_pair (by omega), _, _, hA6⟩

/-- expect, where the word is false already. -/
theorem expect_bad (W w0 : World) (s : ByteArray) (k : Nat) (c : Int) (hs : s.size ≤ 1000) (hk : k ≤ s.size) (hA : At W w0 s k false) :
    Calls Trym.prog 13 #[.pointer (some ⟨w0.heap.size, 0, none⟩), .int .u8 c] W fun e w' => e = .returned (.tuple #[]) ∧ ∃ k', k' ≤ s.size ∧ At w' w0 s k' false :=
  (expect_any W w0 s k false c hs hA).mono fun _ _ ⟨he, ha⟩ => ⟨he, _, nxt_le s k c hk, ha⟩
theorem skip_bad (W w0 : World) (s : ByteArray) (k : Nat) (c : Int) (hs : s.size ≤ 1000) (hk : k ≤ s.size) (hA : At W w0 s k false) :
    Calls Trym.prog 11 #[.pointer (some ⟨w0.heap.size, 0, none⟩), .int .u8 c] W fun e w' => ∃ b, e = .returned (.bool b) ∧ ∃ k', k' ≤ s.size ∧ At w' w0 s k' false :=
  (skip_any W w0 s k false c hs hA).mono fun _ _ ⟨he, ha⟩ => ⟨_, he, _, nxt_le s k c hk, ha⟩
theorem number_bad (W w0 : World) (s : ByteArray) (k : Nat) (mn mx : Int) (hs : s.size ≤ 1000) (hk : k ≤ s.size) (h1 : 0 ≤ mx) (h2 : mx ≤ 9) (hA : At W w0 s k false) :
    Calls Trym.prog 12 #[.pointer (some ⟨w0.heap.size, 0, none⟩), .int .i64 mn, .int .i64 mx] W fun e w' => ∃ v, e = .returned (.int .i64 v) ∧ ∃ k', k' ≤ s.size ∧ At w' w0 s k' false :=
  (number_any W w0 s k false mn mx hs hk h1 h2 hA).mono fun _ _ ⟨he, ha⟩ => ⟨_, he, _, Plain.run_size s _ k hk, ha⟩
theorem clock_bad (W w0 : World) (s : ByteArray) (k : Nat) (hs : s.size ≤ 1000) (hk : k ≤ s.size) (hA : At W w0 s k false) :
    Calls Trym.prog 14 #[.pointer (some ⟨w0.heap.size, 0, none⟩)] W fun e w' => ∃ v1 v2 v3 : Int, e = .returned (.tuple #[.int .i64 v1, .int .i64 v2, .int .i64 v3]) ∧ ∃ k', k' ≤ s.size ∧ At w' w0 s k' false :=
  (clock_any W w0 s k false hs hk hA).mono fun _ _ ⟨v2, v3, he, ha, _, _⟩ => ⟨_, v2, v3, he, _, c3_le s k hk, by rw [q3_bad] at ha; exact ha⟩

set_option maxRecDepth 100000 in
set_option maxHeartbeats 1000000 in
theorem date_no (s : ByteArray) (c : Int) (h : Txt10 s c) (d : isD c = false) (w : World) :
    Calls Trym.prog 10 #[.string s] w fun e w' => e = .returned (.tuple #[.int .i64 0, .bool false]) ∧ ∃ k ok, At w' w s k ok := by
  have hs : s.size ≤ 1000 := by rw [h.size]; decide
  have T := hide h
  have D := hide d
  clear h d
  obtain ⟨y, hy⟩ : ∃ y, Hid (val s 0 (run s 0 4) = y) := ⟨_, hide rfl⟩
  go_enter Trym.func10, Trym.ntmps10
  go_wp2_with fail
  refine (number_is _ w s 0 true 4 4 y 3 false hs (Nat.zero_le _) (by decide) (by decide) (At.mk _ _ 0 _ 0) (unhide hy) (by show 0 + run s 0 4 = 3; rw [y_run3 (unhide T) (unhide D)]) (by show (true && decide ((4 : Int) ≤ (run s 0 4 : Int))) = false; rw [y_run3 (unhide T) (unhide D)]; rfl)).mono ?_
  rintro e w1 ⟨rfl, hA1⟩
  go_wp2_with fail
  refine (expect_bad _ w s 3 45 hs (by rw [(unhide T).size]; decide) hA1).mono ?_
  rintro e w2 ⟨rfl, k2, hk2, hA2⟩
  go_wp2_with fail
  refine (number_bad _ w s k2 1 2 hs hk2 (by decide) (by decide) hA2).mono ?_
  rintro e w3 ⟨mo, rfl, k3, hk3, hA3⟩
  go_wp2_with fail
  refine (expect_bad _ w s k3 45 hs hk3 hA3).mono ?_
  rintro e w4 ⟨rfl, k4, hk4, hA4⟩
  go_wp2_with fail
  refine (number_bad _ w s k4 1 2 hs hk4 (by decide) (by decide) hA4).mono ?_
  rintro e w5 ⟨dy, rfl, k5, hk5, n5, rfl⟩
  clear hA1 hA2 hA3 hA4
  by_cases hlt : k5 < s.size
  · go_wp2_with fail
    refine (skip_bad _ w s k5 32 hs hk5 (At.mk _ _ _ _ _)).mono ?_
    rintro e w6 ⟨b, rfl, k6, hk6, hA6⟩
    cases b
    · go_wp2_with fail
      refine (expect_bad _ w s k6 84 hs hk6 hA6).mono ?_
      rintro e w7 ⟨rfl, k7, hk7, hA7⟩
      go_wp2_with fail
      refine (number_bad _ w s k7 1 2 hs hk7 (by decide) (by decide) hA7).mono ?_
      rintro e w8 ⟨ho, rfl, k8, hk8, hA8⟩
      go_wp2_with fail
      refine (expect_bad _ w s k8 58 hs hk8 hA8).mono ?_
      rintro e w9 ⟨rfl, k9, hk9, hA9⟩
      go_wp2_with fail
      refine (clock_bad _ w s k9 hs hk9 hA9).mono ?_
      rintro e w10 ⟨v1, v2, v3, rfl, k10, hk10, hA10⟩
      go_wp2_with fail
      refine (done_bad _ w s k10 hA10).mono ?_
      rintro e w11 ⟨rfl, hA11⟩
      go_wp2
      go_ret2
      exact ⟨rfl, _, _, hA11⟩
    · go_wp2_with fail
      refine (number_bad _ w s k6 1 2 hs hk6 (by decide) (by decide) hA6).mono ?_
      rintro e w8 ⟨ho, rfl, k8, hk8, hA8⟩
      go_wp2_with fail
      refine (expect_bad _ w s k8 58 hs hk8 hA8).mono ?_
      rintro e w9 ⟨rfl, k9, hk9, hA9⟩
      go_wp2_with fail
      refine (clock_bad _ w s k9 hs hk9 hA9).mono ?_
      rintro e w10 ⟨v1, v2, v3, rfl, k10, hk10, hA10⟩
      go_wp2_with fail
      refine (done_bad _ w s k10 hA10).mono ?_
      rintro e w11 ⟨rfl, hA11⟩
      go_wp2
      go_ret2
      exact ⟨rfl, _, _, hA11⟩
  · go_wp2_with fail
    refine (done_bad _ w s k5 (At.mk _ _ _ _ _)).mono ?_
    rintro e w11 ⟨rfl, hA11⟩
    go_wp2
    go_ret2
    exact ⟨rfl, _, _, hA11⟩

theorem zzdate_yes (s : ByteArray) (c : Int) (h : Txt10 s c) (h1 : 48 ≤ c) (h2 : c ≤ 57) (w : World) :
    Calls Trym.prog 7 #[.string s] w fun e w' => e = .returned (.tuple #[.int .i64 (((c + 1942) * 416 + 33) * 86400000000), .bool true]) ∧ ∃ k ok, At w' w s k ok := by
  have T := hide h
  clear h
  go_enter Trym.func7, Trym.ntmps7
  go_wp2_with (go_at_call 10; refine (date_yes s c (unhide T) h1 h2 _).mono ?_; rintro e w' ⟨rfl, hA⟩)
  go_ret2
  exact ⟨rfl, hA⟩
theorem zzdate_no (s : ByteArray) (c : Int) (h : Txt10 s c) (d : isD c = false) (w : World) :
    Calls Trym.prog 7 #[.string s] w fun e w' => e = .returned (.tuple #[.int .i64 0, .bool false]) ∧ ∃ k ok, At w' w s k ok := by
  have T := hide h
  have D := hide d
  clear h d
  go_enter Trym.func7, Trym.ntmps7
  go_wp2_with (go_at_call 10; refine (date_no s c (unhide T) (unhide D) _).mono ?_; rintro e w' ⟨rfl, hA⟩)
  go_ret2
  exact ⟨rfl, hA⟩
end Go.Proofs.Qxb6614947aMods
