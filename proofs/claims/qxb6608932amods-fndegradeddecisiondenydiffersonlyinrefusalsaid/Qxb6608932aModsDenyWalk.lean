/-
  The walk of FnDegradedDecisionDenyDiffersOnlyInRefusal: it returns true at every input.
-/
import Derived.Test.Qxb6608932aModsPolicy
namespace Go.Proofs.Qxb6608932aMods.fnDegradedDecisionDenyDiffersOnlyInRefusal
open Go.RowKit

set_option maxRecDepth 100000 in
set_option maxHeartbeats 2000000 in
theorem bare_no (nm al : ByteArray) (lim ws sw : Int) (fb : ByteArray) (ed ek : ByteArray) (hb : nm.size + al.size + fb.size + ed.size + ek.size ≤ 1048576) (h1 : nm.size ≤ 65536) (h2 : al.size ≤ 65536) (h3 : fb.size ≤ 65536) (h4 : ed.size ≤ 65536) (h5 : ek.size ≤ 65536)
    (h : (fb.toList == [100, 101, 110, 121]) = true) (w : World) :
    Calls Trym.prog 6 #[.string nm, .string al, .int .i64 lim, .int .i64 ws, .int .i64 sw, .string fb, .bool false, .string ed, .string ek] w fun e w' => e = .returned (.bool true) ∧ Grown w w' := by
  have tq := time_eq
  have hd : ((ByteArray.mk #[100, 101, 110, 121]).toList == [100, 101, 110, 121]) = true := by decide +kernel
  go_enter Trym.func6, Trym.ntmps6
  go_wp2_with (first
    | (go_at_call 18; refine (bytes18_yes nm al lim ws sw fb _ ed ek hb _).mono ?_; rintro e w' ⟨rfl, rfl⟩)
    | (go_at_call 16; refine (policy_bare nm al lim ws sw _ ed ek _).mono ?_; rintro e w' ⟨rfl, o1, o2, rfl⟩)
    | (go_at_call_of 15 (Value.string fb); refine (zzdegraded_no _ _ lim _ _ fb _ h _).mono ?_; rintro e w' ⟨rfl, p1, p2, p3, p4, p5, rfl⟩; unfold decNo)
    | (go_at_call 15; refine (zzdegraded_no _ _ lim _ _ _ _ hd _).mono ?_; rintro e w' ⟨rfl, p1, p2, p3, p4, p5, rfl⟩; unfold decNo)
    | (go_at_call 17; refine (same_no lim _).mono ?_; rintro e w' ⟨rfl, q1, q2, rfl⟩))
  go_ret
  exact ⟨rfl, by repeat (first | (with_reducible exact Grown.refl _) | (with_reducible apply Grown.alloc))⟩

set_option maxRecDepth 100000 in
set_option maxHeartbeats 2000000 in
theorem bare_yes (nm al : ByteArray) (lim ws sw : Int) (fb : ByteArray) (ed ek : ByteArray) (hb : nm.size + al.size + fb.size + ed.size + ek.size ≤ 1048576) (h1 : nm.size ≤ 65536) (h2 : al.size ≤ 65536) (h3 : fb.size ≤ 65536) (h4 : ed.size ≤ 65536) (h5 : ek.size ≤ 65536)
    (h : (fb.toList == [100, 101, 110, 121]) = false) (w : World) :
    Calls Trym.prog 6 #[.string nm, .string al, .int .i64 lim, .int .i64 ws, .int .i64 sw, .string fb, .bool false, .string ed, .string ek] w fun e w' => e = .returned (.bool true) ∧ Grown w w' := by
  have tq := time_eq
  have hd : ((ByteArray.mk #[100, 101, 110, 121]).toList == [100, 101, 110, 121]) = true := by decide +kernel
  go_enter Trym.func6, Trym.ntmps6
  go_wp2_with (first
    | (go_at_call 18; refine (bytes18_yes nm al lim ws sw fb _ ed ek hb _).mono ?_; rintro e w' ⟨rfl, rfl⟩)
    | (go_at_call 16; refine (policy_bare nm al lim ws sw _ ed ek _).mono ?_; rintro e w' ⟨rfl, o1, o2, rfl⟩)
    | (go_at_call_of 15 (Value.string fb); refine (zzdegraded_yes _ _ lim _ _ fb _ h _).mono ?_; rintro e w' ⟨rfl, p1, p2, p3, p4, p5, rfl⟩; unfold decYes)
    | (go_at_call 15; refine (zzdegraded_no _ _ lim _ _ _ _ hd _).mono ?_; rintro e w' ⟨rfl, p1, p2, p3, p4, p5, rfl⟩; unfold decNo)
    | (go_at_call 17; refine (same_yes lim _).mono ?_; rintro e w' ⟨rfl, q1, q2, rfl⟩))
  go_ret
  exact ⟨rfl, by repeat (first | (with_reducible exact Grown.refl _) | (with_reducible apply Grown.alloc))⟩

set_option maxRecDepth 100000 in
set_option maxHeartbeats 2000000 in
theorem envoy_no (nm al : ByteArray) (lim ws sw : Int) (fb : ByteArray) (ed ek : ByteArray) (hb : nm.size + al.size + fb.size + ed.size + ek.size ≤ 1048576) (h1 : nm.size ≤ 65536) (h2 : al.size ≤ 65536) (h3 : fb.size ≤ 65536) (h4 : ed.size ≤ 65536) (h5 : ek.size ≤ 65536)
    (h : (fb.toList == [100, 101, 110, 121]) = true) (w : World) :
    Calls Trym.prog 6 #[.string nm, .string al, .int .i64 lim, .int .i64 ws, .int .i64 sw, .string fb, .bool true, .string ed, .string ek] w fun e w' => e = .returned (.bool true) ∧ Grown w w' := by
  have tq := time_eq
  have hd : ((ByteArray.mk #[100, 101, 110, 121]).toList == [100, 101, 110, 121]) = true := by decide +kernel
  go_enter Trym.func6, Trym.ntmps6
  go_wp2_with (first
    | (go_at_call 18; refine (bytes18_yes nm al lim ws sw fb _ ed ek hb _).mono ?_; rintro e w' ⟨rfl, rfl⟩)
    | (go_at_call 16; refine (policy_envoy nm al lim ws sw _ ed ek _).mono ?_; rintro e w' ⟨rfl, o1, o2, o3, rfl⟩)
    | (go_at_call_of 15 (Value.string fb); refine (zzdegraded_no _ _ lim _ _ fb _ h _).mono ?_; rintro e w' ⟨rfl, p1, p2, p3, p4, p5, rfl⟩; unfold decNo)
    | (go_at_call 15; refine (zzdegraded_no _ _ lim _ _ _ _ hd _).mono ?_; rintro e w' ⟨rfl, p1, p2, p3, p4, p5, rfl⟩; unfold decNo)
    | (go_at_call 17; refine (same_no lim _).mono ?_; rintro e w' ⟨rfl, q1, q2, rfl⟩))
  go_ret
  exact ⟨rfl, by repeat (first | (with_reducible exact Grown.refl _) | (with_reducible apply Grown.alloc))⟩

set_option maxRecDepth 100000 in
set_option maxHeartbeats 2000000 in
theorem envoy_yes (nm al : ByteArray) (lim ws sw : Int) (fb : ByteArray) (ed ek : ByteArray) (hb : nm.size + al.size + fb.size + ed.size + ek.size ≤ 1048576) (h1 : nm.size ≤ 65536) (h2 : al.size ≤ 65536) (h3 : fb.size ≤ 65536) (h4 : ed.size ≤ 65536) (h5 : ek.size ≤ 65536)
    (h : (fb.toList == [100, 101, 110, 121]) = false) (w : World) :
    Calls Trym.prog 6 #[.string nm, .string al, .int .i64 lim, .int .i64 ws, .int .i64 sw, .string fb, .bool true, .string ed, .string ek] w fun e w' => e = .returned (.bool true) ∧ Grown w w' := by
  have tq := time_eq
  have hd : ((ByteArray.mk #[100, 101, 110, 121]).toList == [100, 101, 110, 121]) = true := by decide +kernel
  go_enter Trym.func6, Trym.ntmps6
  go_wp2_with (first
    | (go_at_call 18; refine (bytes18_yes nm al lim ws sw fb _ ed ek hb _).mono ?_; rintro e w' ⟨rfl, rfl⟩)
    | (go_at_call 16; refine (policy_envoy nm al lim ws sw _ ed ek _).mono ?_; rintro e w' ⟨rfl, o1, o2, o3, rfl⟩)
    | (go_at_call_of 15 (Value.string fb); refine (zzdegraded_yes _ _ lim _ _ fb _ h _).mono ?_; rintro e w' ⟨rfl, p1, p2, p3, p4, p5, rfl⟩; unfold decYes)
    | (go_at_call 15; refine (zzdegraded_no _ _ lim _ _ _ _ hd _).mono ?_; rintro e w' ⟨rfl, p1, p2, p3, p4, p5, rfl⟩; unfold decNo)
    | (go_at_call 17; refine (same_yes lim _).mono ?_; rintro e w' ⟨rfl, q1, q2, rfl⟩))
  go_ret
  exact ⟨rfl, by repeat (first | (with_reducible exact Grown.refl _) | (with_reducible apply Grown.alloc))⟩

set_option maxRecDepth 100000 in
set_option maxHeartbeats 1000000 in
theorem long_in (nm al : ByteArray) (lim ws sw : Int) (fb : ByteArray) (ed ek : ByteArray) (b : Bool) (hb : nm.size + al.size + fb.size + ed.size + ek.size ≤ 1048576) (h : 65536 < nm.size ∨ 65536 < al.size ∨ 65536 < fb.size ∨ 65536 < ed.size ∨ 65536 < ek.size) (w : World) :
    Calls Trym.prog 6 #[.string nm, .string al, .int .i64 lim, .int .i64 ws, .int .i64 sw, .string fb, .bool b, .string ed, .string ek] w fun e w' => e = .returned (.bool true) ∧ Grown w w' := by
  by_cases h1 : 65536 < nm.size
  · clear h
    go_enter Trym.func6, Trym.ntmps6
    go_wp2_with (go_at_call 18; refine (bytes18_yes nm al lim ws sw fb _ ed ek hb _).mono ?_; rintro e w' ⟨rfl, rfl⟩)
    go_ret
    exact ⟨rfl, Grown.refl _⟩
  by_cases h2 : 65536 < al.size
  · clear h
    go_enter Trym.func6, Trym.ntmps6
    go_wp2_with (go_at_call 18; refine (bytes18_yes nm al lim ws sw fb _ ed ek hb _).mono ?_; rintro e w' ⟨rfl, rfl⟩)
    go_ret
    exact ⟨rfl, Grown.refl _⟩
  by_cases h3 : 65536 < fb.size
  · clear h
    go_enter Trym.func6, Trym.ntmps6
    go_wp2_with (go_at_call 18; refine (bytes18_yes nm al lim ws sw fb _ ed ek hb _).mono ?_; rintro e w' ⟨rfl, rfl⟩)
    go_ret
    exact ⟨rfl, Grown.refl _⟩
  by_cases h4 : 65536 < ed.size
  · clear h
    go_enter Trym.func6, Trym.ntmps6
    go_wp2_with (go_at_call 18; refine (bytes18_yes nm al lim ws sw fb _ ed ek hb _).mono ?_; rintro e w' ⟨rfl, rfl⟩)
    go_ret
    exact ⟨rfl, Grown.refl _⟩
  have h5 : 65536 < ek.size := by omega
  clear h
  go_enter Trym.func6, Trym.ntmps6
  go_wp2_with (go_at_call 18; refine (bytes18_yes nm al lim ws sw fb _ ed ek hb _).mono ?_; rintro e w' ⟨rfl, rfl⟩)
  go_ret
  exact ⟨rfl, Grown.refl _⟩

set_option maxRecDepth 100000 in
theorem walk (a0 : ByteArray) (a1 : ByteArray) (a2 : Int) (a3 : Int) (a4 : Int) (a5 : ByteArray) (a6 : Bool) (a7 : ByteArray) (a8 : ByteArray) (w0 : a0.size ≤ maxLen) (w1 : a1.size ≤ maxLen) (w5 : a5.size ≤ maxLen) (w7 : a7.size ≤ maxLen) (w8 : a8.size ≤ maxLen) (w : World) :
    Calls Trym.prog 6 #[.string a0, .string a1, .int .i64 a2, .int .i64 a3, .int .i64 a4, .string a5, .bool a6, .string a7, .string a8] w fun e w' => e = .returned (.bool true) ∧ Grown w w' := by
  by_cases hb : a0.size + a1.size + a5.size + a7.size + a8.size ≤ 1048576
  · by_cases hl : 65536 < a0.size ∨ 65536 < a1.size ∨ 65536 < a5.size ∨ 65536 < a7.size ∨ 65536 < a8.size
    · exact long_in a0 a1 a2 a3 a4 a5 a7 a8 a6 hb hl w
    · cases h : (a5.toList == [100, 101, 110, 121]) with
      | true =>
        cases a6 with
        | true => exact envoy_no a0 a1 a2 a3 a4 a5 a7 a8 hb (by omega) (by omega) (by omega) (by omega) (by omega) h w
        | false => exact bare_no a0 a1 a2 a3 a4 a5 a7 a8 hb (by omega) (by omega) (by omega) (by omega) (by omega) h w
      | false =>
        cases a6 with
        | true => exact envoy_yes a0 a1 a2 a3 a4 a5 a7 a8 hb (by omega) (by omega) (by omega) (by omega) (by omega) h w
        | false => exact bare_yes a0 a1 a2 a3 a4 a5 a7 a8 hb (by omega) (by omega) (by omega) (by omega) (by omega) h w
  · go_enter Trym.func6, Trym.ntmps6
    go_wp2_with (go_at_call 18; refine (bytes18_no a0 a1 a2 a3 a4 a5 _ a7 a8 w0 w1 w5 w7 w8 hb _).mono ?_; rintro e w' ⟨rfl, rfl⟩)
    go_ret
    exact ⟨rfl, Grown.refl _⟩
end Go.Proofs.Qxb6608932aMods.fnDegradedDecisionDenyDiffersOnlyInRefusal
