/-
  The walk of fieldReader's clock.
-/
import Derived.Test.Qxb6614947aModsNumber
namespace Go.Proofs.Qxb6614947aMods
open Go.RowKit
open Plain (bt isD run val sk)
theorem number_is (W w0 : World) (s : ByteArray) (k : Nat) (ok : Bool) (mn mx : Int) (v : Int) (k' : Nat) (ok' : Bool) (hs : s.size ≤ 1000) (hk : k ≤ s.size) (h1 : 0 ≤ mx) (h2 : mx ≤ 9) (hA : At W w0 s k ok)
    (hv : val s k (run s k mx.toNat) = v) (hk' : k + run s k mx.toNat = k') (ho : (ok && decide (mn ≤ (run s k mx.toNat : Int))) = ok') :
    Calls Trym.prog 12 #[.pointer (some ⟨w0.heap.size, 0, none⟩), .int .i64 mn, .int .i64 mx] W fun e w' => e = .returned (.int .i64 v) ∧ At w' w0 s k' ok' := by
  subst hv hk' ho
  exact number_any W w0 s k ok mn mx hs hk h1 h2 hA
theorem skip_is (W w0 : World) (s : ByteArray) (k : Nat) (ok : Bool) (c : Int) (b : Bool) (k' : Nat) (hs : s.size ≤ 1000) (hA : At W w0 s k ok) (hb : sk s k c = b) (hk' : nxt s k c = k') :
    Calls Trym.prog 11 #[.pointer (some ⟨w0.heap.size, 0, none⟩), .int .u8 c] W fun e w' => e = .returned (.bool b) ∧ At w' w0 s k' ok := by
  subst hb hk'
  exact skip_any W w0 s k ok c hs hA
theorem nxt_le (s : ByteArray) (k : Nat) (c : Int) (h : k ≤ s.size) : nxt s k c ≤ s.size := by
  unfold nxt
  split
  · rename_i hc
    unfold sk at hc
    rw [Bool.and_eq_true] at hc
    have := of_decide_eq_true hc.1
    omega
  · exact h
theorem nxt_no {s : ByteArray} {k : Nat} {c : Int} (h : sk s k c = false) : nxt s k c = k := by unfold nxt; rw [h]; rfl
theorem nxt_yes {s : ByteArray} {k : Nat} {c : Int} (h : sk s k c = true) : nxt s k c = k + 1 := by unfold nxt; rw [h]; rfl

/-- The places and the word behind clock's three fields. -/
def c1 (s : ByteArray) (k : Nat) : Nat := k + run s k 2
def c2 (s : ByteArray) (k : Nat) : Nat := if sk s (c1 s k) 58 = true then nxt s (c1 s k) 58 + run s (nxt s (c1 s k) 58) 2 else nxt s (c1 s k) 58
def c3 (s : ByteArray) (k : Nat) : Nat := if sk s (c2 s k) 46 = true then nxt s (c2 s k) 46 + run s (nxt s (c2 s k) 46) 6 else nxt s (c2 s k) 46
def q1 (s : ByteArray) (k : Nat) (ok : Bool) : Bool := ok && decide ((1 : Int) ≤ (run s k 2 : Int))
def q2 (s : ByteArray) (k : Nat) (ok : Bool) : Bool := if sk s (c1 s k) 58 = true then q1 s k ok && decide ((1 : Int) ≤ (run s (nxt s (c1 s k) 58) 2 : Int)) else q1 s k ok
def q3 (s : ByteArray) (k : Nat) (ok : Bool) : Bool := if sk s (c2 s k) 46 = true then q2 s k ok && decide ((1 : Int) ≤ (run s (nxt s (c2 s k) 46) 6 : Int)) else q2 s k ok

set_option maxRecDepth 100000 in
set_option maxHeartbeats 1000000 in
/-- No colon, no point. -/
theorem clock_00 (W w0 : World) (s : ByteArray) (k k1 : Nat) (ok ok1 : Bool) (v1 : Int) (hs : s.size ≤ 1000) (hk : k ≤ s.size) (hA : At W w0 s k ok)
    (H1 : Hid (val s k (run s k 2) = v1)) (H2 : Hid (k + run s k 2 = k1)) (H3 : Hid ((ok && decide ((1 : Int) ≤ (run s k 2 : Int))) = ok1))
    (B1 : Hid (sk s k1 58 = false)) (B2 : Hid (sk s k1 46 = false)) :
    Calls Trym.prog 14 #[.pointer (some ⟨w0.heap.size, 0, none⟩)] W fun e w' => e = .returned (.tuple #[.int .i64 v1, .int .i64 0, .int .i64 0]) ∧ At w' w0 s k1 ok1 := by
  obtain ⟨n, rfl⟩ := hA
  go_enter Trym.func14, Trym.ntmps14
  go_wp2_with fail
  refine (number_is _ w0 s k ok 1 2 v1 k1 ok1 hs hk (by decide) (by decide) (At.mk _ _ _ _ _) (unhide H1) (unhide H2) (unhide H3)).mono ?_
  rintro e w1 ⟨rfl, n1, rfl⟩
  go_wp2_with fail
  refine (skip_is _ w0 s k1 ok1 58 false k1 hs (At.mk _ _ _ _ _) (unhide B1) (nxt_no (unhide B1))).mono ?_
  rintro e w2 ⟨rfl, n2, rfl⟩
  go_wp2_with fail
  refine (skip_is _ w0 s k1 ok1 46 false k1 hs (At.mk _ _ _ _ _) (unhide B2) (nxt_no (unhide B2))).mono ?_
  rintro e w3 ⟨rfl, n3, rfl⟩
  go_wp2
  go_ret3
  exact ⟨rfl, At.mk _ _ _ _ _⟩
set_option maxRecDepth 100000 in
set_option maxHeartbeats 1000000 in
/-- A colon, no point. -/
theorem clock_10 (W w0 : World) (s : ByteArray) (k k1 k2 : Nat) (ok ok1 ok2 : Bool) (v1 v2 : Int) (hs : s.size ≤ 1000) (hk : k ≤ s.size) (hA : At W w0 s k ok)
    (H1 : Hid (val s k (run s k 2) = v1)) (H2 : Hid (k + run s k 2 = k1)) (H3 : Hid ((ok && decide ((1 : Int) ≤ (run s k 2 : Int))) = ok1))
    (B1 : Hid (sk s k1 58 = true)) (hk1 : k1 + 1 ≤ s.size) (I1 : Hid (val s (k1 + 1) (run s (k1 + 1) 2) = v2)) (I2 : Hid (k1 + 1 + run s (k1 + 1) 2 = k2)) (I3 : Hid ((ok1 && decide ((1 : Int) ≤ (run s (k1 + 1) 2 : Int))) = ok2))
    (B2 : Hid (sk s k2 46 = false)) :
    Calls Trym.prog 14 #[.pointer (some ⟨w0.heap.size, 0, none⟩)] W fun e w' => e = .returned (.tuple #[.int .i64 v1, .int .i64 v2, .int .i64 0]) ∧ At w' w0 s k2 ok2 := by
  obtain ⟨n, rfl⟩ := hA
  go_enter Trym.func14, Trym.ntmps14
  go_wp2_with fail
  refine (number_is _ w0 s k ok 1 2 v1 k1 ok1 hs hk (by decide) (by decide) (At.mk _ _ _ _ _) (unhide H1) (unhide H2) (unhide H3)).mono ?_
  rintro e w1 ⟨rfl, n1, rfl⟩
  go_wp2_with fail
  refine (skip_is _ w0 s k1 ok1 58 true (k1 + 1) hs (At.mk _ _ _ _ _) (unhide B1) (nxt_yes (unhide B1))).mono ?_
  rintro e w2 ⟨rfl, hA2⟩
  go_wp2_with fail
  refine (number_is _ w0 s (k1 + 1) ok1 1 2 v2 k2 ok2 hs hk1 (by decide) (by decide) hA2 (unhide I1) (unhide I2) (unhide I3)).mono ?_
  rintro e w3 ⟨rfl, hA3⟩
  go_wp2_with fail
  refine (skip_is _ w0 s k2 ok2 46 false k2 hs hA3 (unhide B2) (nxt_no (unhide B2))).mono ?_
  rintro e w4 ⟨rfl, n4, rfl⟩
  go_wp2
  go_ret3
  exact ⟨rfl, At.mk _ _ _ _ _⟩

set_option maxRecDepth 100000 in
set_option maxHeartbeats 1000000 in
/-- No colon, a point. -/
theorem clock_01 (W w0 : World) (s : ByteArray) (k k1 p k3 : Nat) (ok ok1 ok3 : Bool) (v1 v3 : Int) (hs : s.size ≤ 1000) (hk : k ≤ s.size) (hA : At W w0 s k ok)
    (H1 : Hid (val s k (run s k 2) = v1)) (H2 : Hid (k + run s k 2 = k1)) (H3 : Hid ((ok && decide ((1 : Int) ≤ (run s k 2 : Int))) = ok1))
    (B1 : Hid (sk s k1 58 = false)) (B2 : Hid (sk s k1 46 = true)) (hp : Hid (p = k1 + 1)) (hps : p ≤ s.size) (J1 : Hid (val s p (run s p 6) = v3)) (J2 : Hid (p + run s p 6 = k3)) (J3 : Hid ((ok1 && decide ((1 : Int) ≤ (run s p 6 : Int))) = ok3)) :
    Calls Trym.prog 14 #[.pointer (some ⟨w0.heap.size, 0, none⟩)] W fun e w' => ∃ x : Int, e = .returned (.tuple #[.int .i64 v1, .int .i64 0, .int .i64 x]) ∧ At w' w0 s k3 ok3 := by
  obtain ⟨n, rfl⟩ := hA
  have hr6 := Plain.run_le s 6 p
  have hrs := Plain.run_size s 6 p hps
  have hj2 := unhide J2
  have g1 : (0 : Int) ≤ (k3 : Int) - (p : Int) := by omega
  have g2 : (k3 : Int) - (p : Int) ≤ 6 := by omega
  have g3 : k3 ≤ s.size := by omega
  clear hr6 hrs hj2
  go_enter Trym.func14, Trym.ntmps14
  go_wp2_with fail
  refine (number_is _ w0 s k ok 1 2 v1 k1 ok1 hs hk (by decide) (by decide) (At.mk _ _ _ _ _) (unhide H1) (unhide H2) (unhide H3)).mono ?_
  rintro e w1 ⟨rfl, n1, rfl⟩
  go_wp2_with fail
  refine (skip_is _ w0 s k1 ok1 58 false k1 hs (At.mk _ _ _ _ _) (unhide B1) (nxt_no (unhide B1))).mono ?_
  rintro e w2 ⟨rfl, hA2⟩
  go_wp2_with fail
  refine (skip_is _ w0 s k1 ok1 46 true p hs hA2 (unhide B2) ((nxt_yes (unhide B2)).trans (unhide hp).symm)).mono ?_
  rintro e w3 ⟨rfl, n3, rfl⟩
  go_wp2_with fail
  refine (number_is _ w0 s p ok1 1 6 v3 k3 ok3 hs hps (by decide) (by decide) (At.mk _ _ _ _ _) (unhide J1) (unhide J2) (unhide J3)).mono ?_
  rintro e w4 ⟨rfl, n4, rfl⟩
  go_wp2
  go_loop [4, 6] (fun t d => ∃ (x y : Int), t = .int .i64 x ∧ d = .int .i64 y ∧ 0 ≤ y ∧ y ≤ 6) (fun _ d => (6 - intOf d).toNat)
  case atStart => exact ⟨_, _, rfl, rfl, g1, g2⟩
  case round =>
    obtain ⟨x, y, rfl, rfl, hy0, hy1⟩ := hrel
    by_cases hy : y < 6
    · go_wp2
      go_round
      case rel => exact ⟨_, y + 1, rfl, rfl, by omega, by omega⟩
      case measure => simp [intOf]; omega
    · go_wp2
      go_ret3
      exact ⟨⟨x, rfl⟩, At.mk _ _ _ _ _⟩

set_option maxRecDepth 100000 in
set_option maxHeartbeats 1000000 in
/-- A colon and a point. -/
theorem clock_11 (W w0 : World) (s : ByteArray) (k k1 k2 p k3 : Nat) (ok ok1 ok2 ok3 : Bool) (v1 v2 v3 : Int) (hs : s.size ≤ 1000) (hk : k ≤ s.size) (hA : At W w0 s k ok)
    (H1 : Hid (val s k (run s k 2) = v1)) (H2 : Hid (k + run s k 2 = k1)) (H3 : Hid ((ok && decide ((1 : Int) ≤ (run s k 2 : Int))) = ok1))
    (B1 : Hid (sk s k1 58 = true)) (hk1 : k1 + 1 ≤ s.size) (I1 : Hid (val s (k1 + 1) (run s (k1 + 1) 2) = v2)) (I2 : Hid (k1 + 1 + run s (k1 + 1) 2 = k2)) (I3 : Hid ((ok1 && decide ((1 : Int) ≤ (run s (k1 + 1) 2 : Int))) = ok2))
    (B2 : Hid (sk s k2 46 = true)) (hp : Hid (p = k2 + 1)) (hps : p ≤ s.size) (J1 : Hid (val s p (run s p 6) = v3)) (J2 : Hid (p + run s p 6 = k3)) (J3 : Hid ((ok2 && decide ((1 : Int) ≤ (run s p 6 : Int))) = ok3)) :
    Calls Trym.prog 14 #[.pointer (some ⟨w0.heap.size, 0, none⟩)] W fun e w' => ∃ x : Int, e = .returned (.tuple #[.int .i64 v1, .int .i64 v2, .int .i64 x]) ∧ At w' w0 s k3 ok3 := by
  obtain ⟨n, rfl⟩ := hA
  have hr6 := Plain.run_le s 6 p
  have hrs := Plain.run_size s 6 p hps
  have hj2 := unhide J2
  have g1 : (0 : Int) ≤ (k3 : Int) - (p : Int) := by omega
  have g2 : (k3 : Int) - (p : Int) ≤ 6 := by omega
  have g3 : k3 ≤ s.size := by omega
  clear hr6 hrs hj2
  go_enter Trym.func14, Trym.ntmps14
  go_wp2_with fail
  refine (number_is _ w0 s k ok 1 2 v1 k1 ok1 hs hk (by decide) (by decide) (At.mk _ _ _ _ _) (unhide H1) (unhide H2) (unhide H3)).mono ?_
  rintro e w1 ⟨rfl, n1, rfl⟩
  go_wp2_with fail
  refine (skip_is _ w0 s k1 ok1 58 true (k1 + 1) hs (At.mk _ _ _ _ _) (unhide B1) (nxt_yes (unhide B1))).mono ?_
  rintro e w2 ⟨rfl, hA2⟩
  go_wp2_with fail
  refine (number_is _ w0 s (k1 + 1) ok1 1 2 v2 k2 ok2 hs hk1 (by decide) (by decide) hA2 (unhide I1) (unhide I2) (unhide I3)).mono ?_
  rintro e w3 ⟨rfl, hA3⟩
  go_wp2_with fail
  refine (skip_is _ w0 s k2 ok2 46 true p hs hA3 (unhide B2) ((nxt_yes (unhide B2)).trans (unhide hp).symm)).mono ?_
  rintro e w4 ⟨rfl, n4, rfl⟩
  go_wp2_with fail
  refine (number_is _ w0 s p ok2 1 6 v3 k3 ok3 hs hps (by decide) (by decide) (At.mk _ _ _ _ _) (unhide J1) (unhide J2) (unhide J3)).mono ?_
  rintro e w5 ⟨rfl, n5, rfl⟩
  go_wp2
  go_loop [4, 6] (fun t d => ∃ (x y : Int), t = .int .i64 x ∧ d = .int .i64 y ∧ 0 ≤ y ∧ y ≤ 6) (fun _ d => (6 - intOf d).toNat)
  case atStart => exact ⟨_, _, rfl, rfl, g1, g2⟩
  case round =>
    obtain ⟨x, y, rfl, rfl, hy0, hy1⟩ := hrel
    by_cases hy : y < 6
    · go_wp2
      go_round
      case rel => exact ⟨_, y + 1, rfl, rfl, by omega, by omega⟩
      case measure => simp [intOf]; omega
    · go_wp2
      go_ret3
      exact ⟨⟨x, rfl⟩, At.mk _ _ _ _ _⟩

/-- clock, whole: its three numbers, where the reader stands behind it, its word. -/
theorem clock_any (W w0 : World) (s : ByteArray) (k : Nat) (ok : Bool) (hs : s.size ≤ 1000) (hk : k ≤ s.size) (hA : At W w0 s k ok) :
    Calls Trym.prog 14 #[.pointer (some ⟨w0.heap.size, 0, none⟩)] W fun e w' => ∃ v2 v3 : Int, e = .returned (.tuple #[.int .i64 (val s k (run s k 2)), .int .i64 v2, .int .i64 v3]) ∧ At w' w0 s (c3 s k) (q3 s k ok) ∧ (sk s (c1 s k) 58 = false → v2 = 0) ∧ (sk s (c2 s k) 46 = false → v3 = 0) := by
  have h1 : c1 s k ≤ s.size := Plain.run_size s 2 k hk
  have hn1 := nxt_le s (c1 s k) 58 h1
  have h2 : c2 s k ≤ s.size := by
    unfold c2; split
    · exact Plain.run_size s 2 _ hn1
    · exact hn1
  have hn2 := nxt_le s (c2 s k) 46 h2
  unfold c3 q3
  cases B1 : sk s (c1 s k) 58 with
  | false =>
    have e2 : c2 s k = c1 s k := by unfold c2; rw [if_neg (by rw [B1]; decide), nxt_no B1]
    have f2 : q2 s k ok = q1 s k ok := by unfold q2; rw [if_neg (by rw [B1]; decide)]
    cases B2 : sk s (c2 s k) 46 with
    | false =>
      rw [if_neg (by decide), if_neg (by decide), nxt_no B2, e2, f2]
      refine (clock_00 W w0 s k (c1 s k) ok (q1 s k ok) _ hs hk hA (hide rfl) (hide rfl) (hide rfl) (hide B1) (hide (by rw [← e2]; exact B2))).mono ?_
      rintro e w' ⟨rfl, a⟩
      exact ⟨0, 0, rfl, a, fun _ => rfl, fun _ => rfl⟩
    | true =>
      rw [if_pos rfl, if_pos rfl, nxt_yes B2, f2]
      rw [nxt_yes B2] at hn2
      refine (clock_01 W w0 s k (c1 s k) (c2 s k + 1) _ ok (q1 s k ok) _ _ _ hs hk hA (hide rfl) (hide rfl) (hide rfl) (hide B1) (hide (by rw [← e2]; exact B2)) (hide (by rw [e2])) hn2 (hide rfl) (hide rfl) (hide rfl)).mono ?_
      rintro e w' ⟨x, rfl, a⟩
      exact ⟨0, x, rfl, a, fun _ => rfl, (fun h => by cases h)⟩
  | true =>
    have e2 : c2 s k = c1 s k + 1 + run s (c1 s k + 1) 2 := by unfold c2; rw [if_pos B1, nxt_yes B1]
    have f2 : q2 s k ok = (q1 s k ok && decide ((1 : Int) ≤ (run s (c1 s k + 1) 2 : Int))) := by unfold q2; rw [if_pos B1, nxt_yes B1]
    rw [nxt_yes B1] at hn1
    cases B2 : sk s (c2 s k) 46 with
    | false =>
      rw [if_neg (by decide), if_neg (by decide), nxt_no B2]
      refine (clock_10 W w0 s k (c1 s k) (c2 s k) ok (q1 s k ok) (q2 s k ok) _ _ hs hk hA (hide rfl) (hide rfl) (hide rfl) (hide B1) hn1 (hide rfl) (hide e2.symm) (hide f2.symm) (hide B2)).mono ?_
      rintro e w' ⟨rfl, a⟩
      exact ⟨_, 0, rfl, a, (fun h => by cases h), fun _ => rfl⟩
    | true =>
      rw [if_pos rfl, if_pos rfl, nxt_yes B2]
      rw [nxt_yes B2] at hn2
      refine (clock_11 W w0 s k (c1 s k) (c2 s k) (c2 s k + 1) _ ok (q1 s k ok) (q2 s k ok) _ _ _ _ hs hk hA (hide rfl) (hide rfl) (hide rfl) (hide B1) hn1 (hide rfl) (hide e2.symm) (hide f2.symm) (hide B2) (hide rfl) hn2 (hide rfl) (hide rfl) (hide rfl)).mono ?_
      rintro e w' ⟨x, rfl, a⟩
      exact ⟨_, x, rfl, a, (fun h => by cases h), (fun h => by cases h)⟩
theorem q3_bad (s : ByteArray) (k : Nat) : q3 s k false = false := by
  unfold q3 q2 q1; simp
theorem c3_le (s : ByteArray) (k : Nat) (hk : k ≤ s.size) : c3 s k ≤ s.size := by
  have h1 : c1 s k ≤ s.size := Plain.run_size s 2 k hk
  have hn1 := nxt_le s (c1 s k) 58 h1
  have h2 : c2 s k ≤ s.size := by
    unfold c2; split
    · exact Plain.run_size s 2 _ hn1
    · exact hn1
  have hn2 := nxt_le s (c2 s k) 46 h2
  unfold c3; split
  · exact Plain.run_size s 6 _ hn2
  · exact hn2
end Go.Proofs.Qxb6614947aMods
