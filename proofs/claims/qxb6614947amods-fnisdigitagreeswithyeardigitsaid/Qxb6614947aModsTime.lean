/-
  The walks of parseTime and ZZparseTime over a text of four bytes: 0, a colon, 0, c.
-/
import Derived.Test.Qxb6614947aModsClock
namespace Go.Proofs.Qxb6614947aMods
open Go.RowKit
open Plain (bt isD run val sk)

theorem run_yes {s : ByteArray} {k f : Nat} (h : k < s.size) (d : isD (bt s k) = true) : run s k (f + 1) = run s (k + 1) f + 1 := by rw [run, if_pos ⟨h, d⟩]
theorem run_no {s : ByteArray} {k f : Nat} (d : isD (bt s k) = false) : run s k (f + 1) = 0 := by rw [run, if_neg (fun h => by rw [d] at h; exact absurd h.2 (by decide))]
theorem run_end {s : ByteArray} {k f : Nat} (h : ¬ k < s.size) : run s k f = 0 := by
  cases f with
  | zero => rfl
  | succ f => rw [run, if_neg (fun h' => h h'.1)]
theorem sk_yes {s : ByteArray} {k : Nat} {c : Int} (h : k < s.size) (e : bt s k = c) : sk s k c = true := by unfold sk; rw [decide_eq_true h, e]; simp
theorem sk_no {s : ByteArray} {k : Nat} {c : Int} (e : bt s k ≠ c) : sk s k c = false := by unfold sk; rw [beq_eq_false_iff_ne.2 e]; simp
theorem sk_end {s : ByteArray} {k : Nat} {c : Int} (h : ¬ k < s.size) : sk s k c = false := by unfold sk; rw [decide_eq_false h]; rfl
theorem isD_yes {c : Int} (h1 : 48 ≤ c) (h2 : c ≤ 57) : isD c = true := decide_eq_true ⟨h1, h2⟩
theorem isD_not {c : Int} (h : ¬ (48 ≤ c ∧ c ≤ 57)) : isD c = false := decide_eq_false h

/-- The text. -/
structure Txt4 (s : ByteArray) (c : Int) : Prop where
  size : s.size = 4
  b0 : bt s 0 = 48
  b1 : bt s 1 = 58
  b2 : bt s 2 = 48
  b3 : bt s 3 = c

theorem t_hour {s : ByteArray} {c : Int} (h : Txt4 s c) : run s 0 3 = 1 := by
  rw [run_yes (by rw [h.size]; decide) (by rw [h.b0]; rfl), run_no (by rw [h.b1]; rfl)]
theorem t_hour_val {s : ByteArray} {c : Int} (h : Txt4 s c) : val s 0 (run s 0 3) = 0 := by
  rw [t_hour h]; simp [val, h.b0]
theorem t_min {s : ByteArray} {c : Int} (h : Txt4 s c) (d : isD c = true) : run s 2 2 = 2 := by
  rw [run_yes (by rw [h.size]; decide) (by rw [h.b2]; rfl), run_yes (by rw [h.size]; decide) (by rw [h.b3]; exact d)]; rfl
theorem t_min_val {s : ByteArray} {c : Int} (h : Txt4 s c) (d : isD c = true) : val s 2 (run s 2 2) = c - 48 := by
  rw [t_min h d]; simp [val, h.b2, h.b3]
theorem t_min1 {s : ByteArray} {c : Int} (h : Txt4 s c) (d : isD c = false) : run s 2 2 = 1 := by
  rw [run_yes (by rw [h.size]; decide) (by rw [h.b2]; rfl), run_no (by rw [h.b3]; exact d)]
theorem t_end {s : ByteArray} {c : Int} (h : Txt4 s c) : ¬ 4 < s.size := by rw [h.size]; decide
theorem t_c1 {s : ByteArray} {c : Int} (h : Txt4 s c) (d : isD c = true) : c1 s 2 = 4 := by unfold c1; rw [t_min h d]
theorem t_c2 {s : ByteArray} {c : Int} (h : Txt4 s c) (d : isD c = true) : c2 s 2 = 4 := by
  unfold c2; rw [t_c1 h d, sk_end (t_end h), nxt_no (sk_end (t_end h))]; rfl
theorem t_c3 {s : ByteArray} {c : Int} (h : Txt4 s c) (d : isD c = true) : c3 s 2 = 4 := by
  unfold c3; rw [t_c2 h d, sk_end (t_end h), nxt_no (sk_end (t_end h))]; rfl
theorem t_q3 {s : ByteArray} {c : Int} (h : Txt4 s c) (d : isD c = true) : q3 s 2 true = true := by
  unfold q3 q2 q1; rw [t_c2 h d, sk_end (t_end h), t_c1 h d, sk_end (t_end h), t_min h d]; rfl
/-- Where c is no digit: a field is missing, or the text is not read to its end. -/
theorem t_bad {s : ByteArray} {c : Int} (h : Txt4 s c) (d : isD c = false) : q3 s 2 true = false ∨ (((c3 s 2 : Nat) : Int) == (s.size : Int)) = false := by
  have e1 : c1 s 2 = 3 := by unfold c1; rw [t_min1 h d]
  have h3 : 3 < s.size := by rw [h.size]; decide
  by_cases x : c = 58
  · left
    have y : sk s 3 58 = true := sk_yes h3 (by rw [h.b3]; exact x)
    have e2 : c2 s 2 = 4 := by unfold c2; rw [e1, if_pos y, nxt_yes y, run_end (t_end h)]
    unfold q3 q2
    rw [e2, sk_end (t_end h), e1, if_pos y, nxt_yes y, run_end (t_end h)]
    simp
  · have y : sk s 3 58 = false := sk_no (by rw [h.b3]; exact x)
    have e2 : c2 s 2 = 3 := by unfold c2; rw [e1, y, nxt_no y]; rfl
    by_cases z : c = 46
    · left
      have y' : sk s 3 46 = true := sk_yes h3 (by rw [h.b3]; exact z)
      unfold q3
      rw [e2, if_pos y', nxt_yes y', run_end (t_end h)]
      simp
    · right
      have y' : sk s 3 46 = false := sk_no (by rw [h.b3]; exact z)
      have e3 : c3 s 2 = 3 := by unfold c3; rw [e2, y', nxt_no y']; rfl
      rw [e3, h.size]; decide

theorem ret_pair {a b : Int} {p : Bool} (h : a = b) : Ending.returned (.tuple #[.int .i64 a, .bool p]) = .returned (.tuple #[.int .i64 b, .bool p]) := by rw [h]
theorem expect_is (W w0 : World) (s : ByteArray) (k : Nat) (ok : Bool) (c : Int) (k' : Nat) (ok' : Bool) (hs : s.size ≤ 1000) (hA : At W w0 s k ok) (hk' : nxt s k c = k') (ho : (ok && sk s k c) = ok') :
    Calls Trym.prog 13 #[.pointer (some ⟨w0.heap.size, 0, none⟩), .int .u8 c] W fun e w' => e = .returned (.tuple #[]) ∧ At w' w0 s k' ok' := by
  subst hk' ho
  exact expect_any W w0 s k ok c hs hA

set_option maxRecDepth 100000 in
set_option maxHeartbeats 1000000 in
theorem time_yes (s : ByteArray) (c : Int) (h : Txt4 s c) (h1 : 48 ≤ c) (h2 : c ≤ 57) (w : World) :
    Calls Trym.prog 9 #[.string s] w fun e w' => e = .returned (.tuple #[.int .i64 ((c - 48) * 60000000), .bool true]) ∧ ∃ k ok, At w' w s k ok := by
  have d := isD_yes h1 h2
  have hs : s.size ≤ 1000 := by rw [h.size]; decide
  have T := hide h
  have D := hide d
  clear h d
  have k0 : sk s 0 45 = false := sk_no (by rw [(unhide T).b0]; decide)
  have k1 : sk s 1 58 = true := sk_yes (by rw [(unhide T).size]; decide) (unhide T).b1
  have K0 := hide k0
  have K1 := hide k1
  clear k0 k1
  go_enter Trym.func9, Trym.ntmps9
  go_wp2_with fail
  refine (skip_is _ w s 0 true 45 false 0 hs (At.mk _ _ 0 _ 0) (unhide K0) (nxt_no (unhide K0))).mono ?_
  rintro e w1 ⟨rfl, hA1⟩
  go_wp2_with fail
  refine (number_is _ w s 0 true 1 3 0 1 true hs (Nat.zero_le _) (by decide) (by decide) hA1 (t_hour_val (unhide T)) (by show 0 + run s 0 3 = 1; rw [t_hour (unhide T)]) (by show (true && decide ((1 : Int) ≤ (run s 0 3 : Int))) = true; rw [t_hour (unhide T)]; rfl)).mono ?_
  rintro e w2 ⟨rfl, hA2⟩
  go_wp2_with fail
  refine (expect_is _ w s 1 true 58 2 true hs hA2 (nxt_yes (unhide K1)) (by rw [unhide K1]; rfl)).mono ?_
  rintro e w3 ⟨rfl, hA3⟩
  go_wp2_with fail
  refine (clock_any _ w s 2 true hs (by rw [(unhide T).size]; decide) hA3).mono ?_
  rintro e w4 ⟨v2, v3, rfl, hA4, e2, e3⟩
  obtain rfl := e2 (by rw [t_c1 (unhide T) (unhide D)]; exact sk_end (t_end (unhide T)))
  obtain rfl := e3 (by rw [t_c2 (unhide T) (unhide D)]; exact sk_end (t_end (unhide T)))
  clear e2 e3
  rw [t_c3 (unhide T) (unhide D), t_q3 (unhide T) (unhide D)] at hA4
  rw [t_min_val (unhide T) (unhide D)]
  go_wp2_with fail
  refine (done_ok _ w s 4 hs hA4).mono ?_
  rintro e w5 ⟨rfl, hA5⟩
  rw [(unhide T).size]
  go_wp2
  go_ret2
  exact ⟨ret_pair (by omega), _, _, hA5⟩

/-- done: 'and' of the word and of the place. -/
theorem done_no (W w0 : World) (s : ByteArray) (k : Nat) (ok : Bool) (hs : s.size ≤ 1000) (hA : At W w0 s k ok) (h : ok = false ∨ (((k : Nat) : Int) == (s.size : Int)) = false) :
    Calls Trym.prog 15 #[.pointer (some ⟨w0.heap.size, 0, none⟩)] W fun e w' => e = .returned (.bool false) ∧ At w' w0 s k ok := by
  cases ok with
  | false => exact done_bad W w0 s k hA
  | true =>
    rcases h with h | h
    · exact absurd h (by decide)
    · have := done_ok W w0 s k hs hA
      rw [h] at this
      exact this

set_option maxRecDepth 100000 in
set_option maxHeartbeats 1000000 in
theorem time_no (s : ByteArray) (c : Int) (h : Txt4 s c) (d : isD c = false) (w : World) :
    Calls Trym.prog 9 #[.string s] w fun e w' => e = .returned (.tuple #[.int .i64 0, .bool false]) ∧ ∃ k ok, At w' w s k ok := by
  have hs : s.size ≤ 1000 := by rw [h.size]; decide
  have T := hide h
  have D := hide d
  clear h d
  have k0 : sk s 0 45 = false := sk_no (by rw [(unhide T).b0]; decide)
  have k1 : sk s 1 58 = true := sk_yes (by rw [(unhide T).size]; decide) (unhide T).b1
  have K0 := hide k0
  have K1 := hide k1
  clear k0 k1
  go_enter Trym.func9, Trym.ntmps9
  go_wp2_with fail
  refine (skip_is _ w s 0 true 45 false 0 hs (At.mk _ _ 0 _ 0) (unhide K0) (nxt_no (unhide K0))).mono ?_
  rintro e w1 ⟨rfl, hA1⟩
  go_wp2_with fail
  refine (number_is _ w s 0 true 1 3 0 1 true hs (Nat.zero_le _) (by decide) (by decide) hA1 (t_hour_val (unhide T)) (by show 0 + run s 0 3 = 1; rw [t_hour (unhide T)]) (by show (true && decide ((1 : Int) ≤ (run s 0 3 : Int))) = true; rw [t_hour (unhide T)]; rfl)).mono ?_
  rintro e w2 ⟨rfl, hA2⟩
  go_wp2_with fail
  refine (expect_is _ w s 1 true 58 2 true hs hA2 (nxt_yes (unhide K1)) (by rw [unhide K1]; rfl)).mono ?_
  rintro e w3 ⟨rfl, hA3⟩
  go_wp2_with fail
  refine (clock_any _ w s 2 true hs (by rw [(unhide T).size]; decide) hA3).mono ?_
  rintro e w4 ⟨v2, v3, rfl, hA4, e2, e3⟩
  clear e2 e3
  generalize val s 2 (run s 2 2) = v1
  go_wp2_with fail
  refine (done_no _ w s _ _ hs hA4 (t_bad (unhide T) (unhide D))).mono ?_
  rintro e w5 ⟨rfl, hA5⟩
  go_wp2
  go_ret2
  exact ⟨rfl, _, _, hA5⟩

theorem zztime_yes (s : ByteArray) (c : Int) (h : Txt4 s c) (h1 : 48 ≤ c) (h2 : c ≤ 57) (w : World) :
    Calls Trym.prog 6 #[.string s] w fun e w' => e = .returned (.tuple #[.int .i64 ((c - 48) * 60000000), .bool true]) ∧ ∃ k ok, At w' w s k ok := by
  have T := hide h
  clear h
  go_enter Trym.func6, Trym.ntmps6
  go_wp2_with (go_at_call 9; refine (time_yes s c (unhide T) h1 h2 _).mono ?_; rintro e w' ⟨rfl, hA⟩)
  go_ret2
  exact ⟨rfl, hA⟩
theorem zztime_no (s : ByteArray) (c : Int) (h : Txt4 s c) (d : isD c = false) (w : World) :
    Calls Trym.prog 6 #[.string s] w fun e w' => e = .returned (.tuple #[.int .i64 0, .bool false]) ∧ ∃ k ok, At w' w s k ok := by
  have T := hide h
  have D := hide d
  clear h d
  go_enter Trym.func6, Trym.ntmps6
  go_wp2_with (go_at_call 9; refine (time_no s c (unhide T) (unhide D) _).mono ?_; rintro e w' ⟨rfl, hA⟩)
  go_ret2
  exact ⟨rfl, hA⟩
end Go.Proofs.Qxb6614947aMods
