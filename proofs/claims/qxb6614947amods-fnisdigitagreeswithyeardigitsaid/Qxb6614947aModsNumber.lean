/-
  The walk of fieldReader's number.
-/
import Derived.Test.Qxb6614947aModsReader
namespace Go.Proofs.Qxb6614947aMods
open Go.RowKit
open Plain (bt isD run val sk)
theorem isDigit_is (c : Int) (v : Bool) (hv : isD c = v) (w : World) : Calls Trym.prog 8 #[.int .u8 c] w fun e w' => e = .returned (.bool v) ∧ w' = w := by
  rw [← hv]; exact isDigit_any c w

theorem step_world (w0 : World) (s : ByteArray) (p : Nat) (ok : Bool) (n : Nat) : ((w0.alloc (.cells #[.string s, .int .i64 (p : Int), .bool ok] 27)).drewN n).setCell ⟨w0.heap.size, 1, none⟩ (.int .i64 ((p : Int) + 1)) = (w0.alloc (.cells #[.string s, .int .i64 ((p + 1 : Nat) : Int), .bool ok] 27)).drewN n := by
  rw [set_new w0 _ _ n _ 1 rfl _]
  rfl
theorem ret_int {k : IntKind} {a b : Int} (h : a = b) : Ending.returned (.int k a) = .returned (.int k b) := by rw [h]
theorem end_few (w0 : World) (s : ByteArray) (k p m : Nat) (ok : Bool) (mn : Int) (n : Nat) (hp : p = k + m) (h : (m : Int) < mn) :
    At (((w0.alloc (.cells #[.string s, .int .i64 (p : Int), .bool ok] 27)).drewN n).setCell ⟨w0.heap.size, 2, none⟩ (.bool false)) w0 s (k + m) (ok && decide (mn ≤ (m : Int))) := by
  subst hp
  rw [decide_eq_false (by omega), Bool.and_false]
  exact At.set2 w0 s _ ok false n
theorem end_many (w0 : World) (s : ByteArray) (k p m : Nat) (ok : Bool) (mn : Int) (n : Nat) (hp : p = k + m) (h : mn ≤ (m : Int)) :
    At ((w0.alloc (.cells #[.string s, .int .i64 (p : Int), .bool ok] 27)).drewN n) w0 s (k + m) (ok && decide (mn ≤ (m : Int))) := by
  subst hp
  rw [decide_eq_true h, Bool.and_true]
  exact At.mk w0 s _ ok n
/-- A callee that turns nothing, inside a region that begins behind q draws. -/
theorem quiet_same {P : Program} {f : FuncId} {args : Array Value} {W : World} {q x : Nat} {v : Value}
    (h : Calls P f args (W.drewN (q + x)) fun e w' => e = .returned v ∧ w' = W.drewN (q + x)) : Calls P f args (W.drewN (q + x)) fun e w'' => e = .returned v ∧ ∃ n, w'' = W.drewN (q + n) :=
  h.mono fun _ _ ⟨he, hm⟩ => ⟨he, x, hm⟩
theorem wrap_pk (p k : Nat) (h1 : p ≤ 2000) (h2 : k ≤ 2000) : IntKind.i64.wrap ((p : Int) - (k : Int)) = (p : Int) - (k : Int) := by
  simp [IntKind.wrap, IntKind.bits, IntKind.signed]
  omega

set_option maxRecDepth 100000 in
set_option maxHeartbeats 2000000 in
theorem number_any (W w0 : World) (s : ByteArray) (k : Nat) (ok : Bool) (mn mx : Int) (hs : s.size ≤ 1000) (hk : k ≤ s.size) (h1 : 0 ≤ mx) (h2 : mx ≤ 9) (hA : At W w0 s k ok) :
    Calls Trym.prog 12 #[.pointer (some ⟨w0.heap.size, 0, none⟩), .int .i64 mn, .int .i64 mx] W fun e w' => e = .returned (.int .i64 (val s k (run s k mx.toNat))) ∧ At w' w0 s (k + run s k mx.toNat) (ok && decide (mn ≤ (run s k mx.toNat : Int))) := by
  obtain ⟨n, rfl⟩ := hA
  obtain ⟨m, hm⟩ : ∃ m, Hid (run s k mx.toNat = m) := ⟨_, hide rfl⟩
  have hm1 : m ≤ mx.toNat := by rw [← unhide hm]; exact Plain.run_le s _ k
  have hm2 : k + m ≤ s.size := by rw [← unhide hm]; exact Plain.run_size s _ k hk
  have hD : Hid (∀ j, j < m → k + j < s.size ∧ isD (bt s (k + j)) = true) := hide (by rw [← unhide hm]; exact Plain.run_digit s _ k)
  have hV : Hid (∀ j, j ≤ m → 0 ≤ val s k j ∧ val s k j < 1000000000) := hide (fun j hj => Plain.val_small s k mx.toNat (by omega) j (by rw [unhide hm]; exact hj))
  have hS : Hid (m < mx.toNat → k + m < s.size → isD (bt s (k + m)) = false) := hide (by rw [← unhide hm]; exact Plain.run_stop s _ k)
  rw [unhide hm]
  clear hm
  go_enter Trym.func12, Trym.ntmps12
  go_wp2
  go_quiet (fail)
  go_wp2
  go_loopw [7] (fun t wr => ∃ (p q : Nat) (v : Int), k ≤ p ∧ p ≤ k + m ∧ t = .int .i64 v ∧ 0 ≤ v ∧ v < 1000000000 ∧ Hid (v = val s k (p - k)) ∧ wr = (w0.alloc (.cells #[.string s, .int .i64 (p : Int), .bool ok] 27)).drewN q) (fun _ wr => k + m - (intOf ((wr.cell? ⟨w0.heap.size, 1, none⟩).getD (.int .i64 0))).toNat)
  case atStart => exact ⟨k, n + nq, 0, Nat.le_refl _, by omega, rfl, by omega, by omega, hide (by rw [Nat.sub_self]; rfl), World.drewN_drewN _ _ _⟩
  case round =>
    obtain ⟨p, q, v, hp1, hp2, rfl, hv0, hv1, hv, rfl⟩ := hrel
    by_cases hlt : p < k + m
    · have hd := (unhide hD) (p - k) (by omega)
      rw [show k + (p - k) = p by omega] at hd
      obtain ⟨hps, hdig⟩ := hd
      have hb : 48 ≤ bt s p ∧ bt s p ≤ 57 := of_decide_eq_true hdig
      rw [← Plain.bt_eq s p hps] at hb hdig
      obtain ⟨hb1, hb2⟩ := hb
      have HD := hide hdig
      have HN : Hid (v * 10 + ((s[p].toNat : Int) - 48) = val s k (p + 1 - k)) := hide (by
        rw [show p + 1 - k = (p - k) + 1 by omega, val, ← unhide hv, show k + (p - k) = p by omega, Plain.bt_eq s p hps])
      have HB := (unhide hV) (p + 1 - k) (by omega)
      rw [← unhide HN] at HB
      obtain ⟨hn0, hn1⟩ := HB
      clear hdig
      have g1 : (p : Int) < (s.size : Int) := by omega
      have g2 : decide (IntKind.i64.wrap ((p : Int) - (k : Int)) < mx) = true := by rw [wrap_pk p k (by omega) (by omega)]; exact decide_eq_true (by omega)
      go_wp2
      go_quiet ((go_at_call 8; exact quiet_same (isDigit_is _ true (unhide HD) _)))
      go_wp2
      go_quiet (fail)
      go_wp2
      exact ⟨⟨p + 1, _, v * 10 + ((s[p].toNat : Int) - 48), by omega, by omega, rfl, hn0, hn1, HN, step_world w0 s p ok _⟩, by rw [step_world]; simp [intOf, go_sem]; omega⟩
    · have hpe : p = k + m := by omega
      have hve : Hid (v = val s k m) := hide (by rw [unhide hv, hpe, Nat.add_sub_cancel_left])
      have hst := unhide hS
      rw [← hpe] at hst
      have g0 : IntKind.i64.wrap ((p : Int) - (k : Int)) = (m : Int) := by rw [wrap_pk p k (by omega) (by omega)]; omega
      have HP := hide hpe
      clear hpe hv
      by_cases hps : p < s.size
      · have g1 : (p : Int) < (s.size : Int) := by omega
        by_cases hmx : m < mx.toNat
        · have hdig := hst hmx hps
          rw [← Plain.bt_eq s p hps] at hdig
          have HD := hide hdig
          have g2 : decide ((m : Int) < mx) = true := decide_eq_true (by omega)
          clear hdig hst
          go_wp2
          go_quiet ((go_at_call 8; exact quiet_same (isDigit_is _ false (unhide HD) _)))
          go_wp2
          · go_ret
            exact ⟨ret_int (unhide hve), end_few w0 s k p m ok mn _ (unhide HP) ‹_›⟩
          · go_ret
            exact ⟨ret_int (unhide hve), end_many w0 s k p m ok mn _ (unhide HP) ‹_›⟩
        · have g2 : decide ((m : Int) < mx) = false := decide_eq_false (by omega)
          clear hst
          go_wp2
          go_quiet (fail)
          go_wp2
          · go_ret
            exact ⟨ret_int (unhide hve), end_few w0 s k p m ok mn _ (unhide HP) ‹_›⟩
          · go_ret
            exact ⟨ret_int (unhide hve), end_many w0 s k p m ok mn _ (unhide HP) ‹_›⟩
      · have g1 : decide ((p : Int) < (s.size : Int)) = false := decide_eq_false (by omega)
        clear hst
        go_wp2
        go_quiet (fail)
        go_wp2
        · go_ret
          exact ⟨ret_int (unhide hve), end_few w0 s k p m ok mn _ (unhide HP) ‹_›⟩
        · go_ret
          exact ⟨ret_int (unhide hve), end_many w0 s k p m ok mn _ (unhide HP) ‹_›⟩
end Go.Proofs.Qxb6614947aMods
