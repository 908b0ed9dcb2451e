/-
  The walks of isDigit and of fieldReader's skip, expect, done: over a reader that lies in the last block.
-/
import Derived.Test.Qxb6614947aModsRows
import Derived.Test.Qxb6614947aModsPlain
import Derived.WalkKit
import Derived.WalkSpells
import Derived.BigQuiet
import Derived.Deep.QuietTactic
import Derived.Deep.RegionWith
import Derived.RowKit3
namespace Go.Proofs.Qxb6614947aMods
open Go.RowKit
open Plain (bt isD run val sk)

theorem hide {p : Prop} (h : p) : Hid p := h
theorem unhide {p : Prop} (h : Hid p) : p := h
theorem ret_bool {a b : Bool} (h : a = b) : Ending.returned (.bool a) = .returned (.bool b) := by rw [h]

/-- The reader (its text s, its place k, its word ok) lies in W's last block; all else is w0; there may have been draws. -/
def At (W w0 : World) (s : ByteArray) (k : Nat) (ok : Bool) : Prop := ∃ n, W = (w0.alloc (.cells #[.string s, .int .i64 (k : Int), .bool ok] 27)).drewN n

theorem set_new (W : World) (c : Array Value) (t : TypeId) (n b o : Nat) (hb : b = W.heap.size) (v : Value) :
    ((W.alloc (.cells c t)).drewN n).setCell ⟨b, o, none⟩ v = (W.alloc (.cells (c.setIfInBounds o v) t)).drewN n := by
  show ((W.alloc (.cells c t)).setCell ⟨b, o, none⟩ v).drewN n = _
  rw [World.setCell_alloc_at c t b o v hb]
theorem At.mk (w0 : World) (s : ByteArray) (k : Nat) (ok : Bool) (n : Nat) : At ((w0.alloc (.cells #[.string s, .int .i64 (k : Int), .bool ok] 27)).drewN n) w0 s k ok := ⟨n, rfl⟩
theorem At.drewN {W w0 : World} {s : ByteArray} {k : Nat} {ok : Bool} (h : At W w0 s k ok) (m : Nat) : At (W.drewN m) w0 s k ok := by
  obtain ⟨n, rfl⟩ := h
  exact ⟨n + m, World.drewN_drewN _ _ _⟩
theorem At.set1 (w0 : World) (s : ByteArray) (k k' : Nat) (v : Int) (ok : Bool) (n : Nat) (hv : v = (k' : Int)) : At (((w0.alloc (.cells #[.string s, .int .i64 (k : Int), .bool ok] 27)).drewN n).setCell ⟨w0.heap.size, 1, none⟩ (.int .i64 v)) w0 s k' ok := by
  subst hv
  exact ⟨n, set_new w0 _ _ n _ 1 rfl _⟩
theorem At.set2 (w0 : World) (s : ByteArray) (k : Nat) (ok ok' : Bool) (n : Nat) : At (((w0.alloc (.cells #[.string s, .int .i64 (k : Int), .bool ok] 27)).drewN n).setCell ⟨w0.heap.size, 2, none⟩ (.bool ok')) w0 s k ok' :=
  ⟨n, set_new w0 _ _ n _ 2 rfl _⟩

theorem isDigit_any (c : Int) (w : World) : Calls Trym.prog 8 #[.int .u8 c] w fun e w' => e = .returned (.bool (isD c)) ∧ w' = w := by
  by_cases h1 : 48 ≤ c
  · by_cases h2 : c ≤ 57
    · have hv : isD c = true := decide_eq_true ⟨h1, h2⟩
      have HV := hide hv
      clear hv
      go_enter Trym.func8, Trym.ntmps8
      go_wp2
      go_ret
      exact ⟨ret_bool (unhide HV).symm, rfl⟩
    · have hv : isD c = false := decide_eq_false (fun h => h2 h.2)
      have HV := hide hv
      clear hv
      go_enter Trym.func8, Trym.ntmps8
      go_wp2
      go_ret
      exact ⟨ret_bool (unhide HV).symm, rfl⟩
  · have hv : isD c = false := decide_eq_false (fun h => h1 h.1)
    have HV := hide hv
    clear hv
    have h1' : decide (48 ≤ c) = false := decide_eq_false h1
    go_enter Trym.func8, Trym.ntmps8
    go_wp2
    go_ret
    exact ⟨ret_bool (unhide HV).symm, rfl⟩

set_option maxRecDepth 100000 in
set_option maxHeartbeats 1000000 in
theorem skip_yes (W w0 : World) (s : ByteArray) (k : Nat) (ok : Bool) (c : Int) (hs : s.size ≤ 1000) (hA : At W w0 s k ok) (hk : k < s.size) (hc : bt s k = c) :
    Calls Trym.prog 11 #[.pointer (some ⟨w0.heap.size, 0, none⟩), .int .u8 c] W fun e w' => e = .returned (.bool true) ∧ At w' w0 s (k + 1) ok := by
  obtain ⟨n, rfl⟩ := hA
  have hb : ((s[k].toNat : Int) == c) = true := by rw [Plain.bt_eq s k hk, hc]; exact beq_self_eq_true _
  clear hc
  have i0 : (0 : Int) ≤ (k : Int) := by omega
  have i1 : (k : Int) < (s.size : Int) := by omega
  go_enter Trym.func11, Trym.ntmps11
  go_wp2
  go_quiet (fail)
  go_wp2
  go_ret
  exact ⟨rfl, At.set1 _ _ _ _ _ _ _ (by omega)⟩

set_option maxRecDepth 100000 in
set_option maxHeartbeats 1000000 in
theorem skip_other (W w0 : World) (s : ByteArray) (k : Nat) (ok : Bool) (c : Int) (_hs : s.size ≤ 1000) (hA : At W w0 s k ok) (hk : k < s.size) (hc : ¬ bt s k = c) :
    Calls Trym.prog 11 #[.pointer (some ⟨w0.heap.size, 0, none⟩), .int .u8 c] W fun e w' => e = .returned (.bool false) ∧ At w' w0 s k ok := by
  obtain ⟨n, rfl⟩ := hA
  have hb : ((s[k].toNat : Int) == c) = false := by rw [Plain.bt_eq s k hk, beq_eq_false_iff_ne]; exact hc
  clear hc
  have i0 : (0 : Int) ≤ (k : Int) := by omega
  have i1 : (k : Int) < (s.size : Int) := by omega
  go_enter Trym.func11, Trym.ntmps11
  go_wp2
  go_quiet (fail)
  go_wp2
  go_ret
  exact ⟨rfl, (At.mk _ _ _ _ _).drewN _⟩

set_option maxRecDepth 100000 in
set_option maxHeartbeats 1000000 in
theorem skip_end (W w0 : World) (s : ByteArray) (k : Nat) (ok : Bool) (c : Int) (_hs : s.size ≤ 1000) (hA : At W w0 s k ok) (hk : ¬ k < s.size) :
    Calls Trym.prog 11 #[.pointer (some ⟨w0.heap.size, 0, none⟩), .int .u8 c] W fun e w' => e = .returned (.bool false) ∧ At w' w0 s k ok := by
  obtain ⟨n, rfl⟩ := hA
  have i1 : decide ((k : Int) < (s.size : Int)) = false := decide_eq_false (by omega)
  go_enter Trym.func11, Trym.ntmps11
  go_wp2
  go_quiet (fail)
  go_wp2
  go_ret
  exact ⟨rfl, (At.mk _ _ _ _ _).drewN _⟩

/-- The place behind a byte that is passed over, if it is there. -/
def nxt (s : ByteArray) (k : Nat) (c : Int) : Nat := if sk s k c = true then k + 1 else k

theorem skip_any (W w0 : World) (s : ByteArray) (k : Nat) (ok : Bool) (c : Int) (hs : s.size ≤ 1000) (hA : At W w0 s k ok) :
    Calls Trym.prog 11 #[.pointer (some ⟨w0.heap.size, 0, none⟩), .int .u8 c] W fun e w' => e = .returned (.bool (sk s k c)) ∧ At w' w0 s (nxt s k c) ok := by
  unfold nxt
  by_cases hk : k < s.size
  · by_cases hc : bt s k = c
    · have e : sk s k c = true := by unfold sk; rw [decide_eq_true hk, hc]; simp
      rw [e, if_pos rfl]
      exact skip_yes W w0 s k ok c hs hA hk hc
    · have e : sk s k c = false := by unfold sk; rw [beq_eq_false_iff_ne.2 hc]; simp
      rw [e, if_neg (by decide)]
      exact skip_other W w0 s k ok c hs hA hk hc
  · have e : sk s k c = false := by unfold sk; rw [decide_eq_false hk]; rfl
    rw [e, if_neg (by decide)]
    exact skip_end W w0 s k ok c hs hA hk

set_option maxRecDepth 100000 in
set_option maxHeartbeats 1000000 in
theorem expect_any (W w0 : World) (s : ByteArray) (k : Nat) (ok : Bool) (c : Int) (hs : s.size ≤ 1000) (hA : At W w0 s k ok) :
    Calls Trym.prog 13 #[.pointer (some ⟨w0.heap.size, 0, none⟩), .int .u8 c] W fun e w' => e = .returned (.tuple #[]) ∧ At w' w0 s (nxt s k c) (ok && sk s k c) := by
  have hq := skip_any W w0 s k ok c hs hA
  obtain ⟨v, hv⟩ : ∃ v, sk s k c = v := ⟨_, rfl⟩
  rw [hv] at hq ⊢
  have HQ := hide hq
  clear hq hv hA
  cases v
  · go_enter Trym.func13, Trym.ntmps13
    go_wp2_with (go_at_call 11; refine (unhide HQ).mono ?_; rintro e w' ⟨rfl, n, rfl⟩)
    go_end0
    rw [Bool.and_false]
    exact ⟨rfl, At.set2 _ _ _ _ _ _⟩
  · go_enter Trym.func13, Trym.ntmps13
    go_wp2_with (go_at_call 11; refine (unhide HQ).mono ?_; rintro e w' ⟨rfl, n, rfl⟩)
    go_end0
    rw [Bool.and_true]
    exact ⟨rfl, At.mk _ _ _ _ _⟩

set_option maxRecDepth 100000 in
set_option maxHeartbeats 1000000 in
theorem done_bad (W w0 : World) (s : ByteArray) (k : Nat) (hA : At W w0 s k false) :
    Calls Trym.prog 15 #[.pointer (some ⟨w0.heap.size, 0, none⟩)] W fun e w' => e = .returned (.bool false) ∧ At w' w0 s k false := by
  obtain ⟨n, rfl⟩ := hA
  go_enter Trym.func15, Trym.ntmps15
  go_wp2
  go_quiet (fail)
  go_wp2
  go_ret
  exact ⟨rfl, (At.mk _ _ _ _ _).drewN _⟩
set_option maxRecDepth 100000 in
set_option maxHeartbeats 1000000 in
theorem done_ok (W w0 : World) (s : ByteArray) (k : Nat) (_hs : s.size ≤ 1000) (hA : At W w0 s k true) :
    Calls Trym.prog 15 #[.pointer (some ⟨w0.heap.size, 0, none⟩)] W fun e w' => e = .returned (.bool ((k : Int) == (s.size : Int))) ∧ At w' w0 s k true := by
  obtain ⟨n, rfl⟩ := hA
  go_enter Trym.func15, Trym.ntmps15
  go_wp2
  go_quiet (fail)
  go_wp2
  go_ret
  exact ⟨rfl, (At.mk _ _ _ _ _).drewN _⟩
end Go.Proofs.Qxb6614947aMods
