/-
  The walks of degradedDecision, ZZdegradedDecision, zzPolicy and zzSameDecision.
-/
import Derived.Test.Qxb6608932aModsRows
import Derived.WalkKit
import Derived.WalkSpells
import Derived.Deep.RegionWith
namespace Go.Proofs.Qxb6608932aMods
open Go.RowKit

/-- The cells of a degraded decision: refused, or let through. -/
def decNo (lim : Int) : Array Value := #[.bool false, .int .i64 lim, .int .i64 0, .int .i64 1000000000, .int .u64 0, .int .i64 0, .pointer none, .int .u64 0, .int .i64 0, .pointer none, .bool true]
def decYes (lim : Int) : Array Value := #[.bool true, .int .i64 lim, .int .i64 0, .int .i64 0, .int .u64 0, .int .i64 0, .pointer none, .int .u64 0, .int .i64 0, .pointer none, .bool true]

set_option maxRecDepth 100000 in
set_option maxHeartbeats 1000000 in
theorem degraded_no (nm al : ByteArray) (lim ws sw : Int) (fb : ByteArray) (pt : Value) (h : (fb.toList == [100, 101, 110, 121]) = true) (w : World) :
    Calls Trym.prog 27 #[.agg #[.string nm, .string al, .int .i64 lim, .int .i64 ws, .int .i64 sw, .string fb, pt]] w fun e w' =>
      e = .returned (.agg (decNo lim)) ∧ ∃ c1 c2 c3 : Array Value, w' = ((w.alloc (.cells c1 40)).alloc (.cells c2 34)).alloc (.cells c3 34) := by
  go_enter Trym.func27, Trym.ntmps27
  go_wp2
  simp [bodyPost, results, Trym.results27, go_sem]
  exact ⟨rfl, _, _, _, rfl⟩

set_option maxRecDepth 100000 in
set_option maxHeartbeats 1000000 in
theorem degraded_yes (nm al : ByteArray) (lim ws sw : Int) (fb : ByteArray) (pt : Value) (h : (fb.toList == [100, 101, 110, 121]) = false) (w : World) :
    Calls Trym.prog 27 #[.agg #[.string nm, .string al, .int .i64 lim, .int .i64 ws, .int .i64 sw, .string fb, pt]] w fun e w' =>
      e = .returned (.agg (decYes lim)) ∧ ∃ c1 c2 c3 : Array Value, w' = ((w.alloc (.cells c1 40)).alloc (.cells c2 34)).alloc (.cells c3 34) := by
  go_enter Trym.func27, Trym.ntmps27
  go_wp2
  simp [bodyPost, results, Trym.results27, go_sem]
  exact ⟨rfl, _, _, _, rfl⟩

set_option maxRecDepth 100000 in
set_option maxHeartbeats 1000000 in
theorem zzdegraded_no (nm al : ByteArray) (lim ws sw : Int) (fb : ByteArray) (pt : Value) (h : (fb.toList == [100, 101, 110, 121]) = true) (w : World) :
    Calls Trym.prog 15 #[.agg #[.string nm, .string al, .int .i64 lim, .int .i64 ws, .int .i64 sw, .string fb, pt]] w fun e w' =>
      e = .returned (.agg (decNo lim)) ∧ ∃ c1 c2 c3 c4 c5 : Array Value, w' = ((((w.alloc (.cells c1 40)).alloc (.cells c2 34)).alloc (.cells c3 40)).alloc (.cells c4 34)).alloc (.cells c5 34) := by
  go_enter Trym.func15, Trym.ntmps15
  go_wp2_with (go_at_call 27; refine (degraded_no nm al lim ws sw fb pt h _).mono ?_; rintro e w' ⟨rfl, o1, o2, o3, rfl⟩; unfold decNo)
  simp [bodyPost, results, Trym.results15, go_sem]
  exact ⟨rfl, _, _, _, _, _, rfl⟩

set_option maxRecDepth 100000 in
set_option maxHeartbeats 1000000 in
theorem zzdegraded_yes (nm al : ByteArray) (lim ws sw : Int) (fb : ByteArray) (pt : Value) (h : (fb.toList == [100, 101, 110, 121]) = false) (w : World) :
    Calls Trym.prog 15 #[.agg #[.string nm, .string al, .int .i64 lim, .int .i64 ws, .int .i64 sw, .string fb, pt]] w fun e w' =>
      e = .returned (.agg (decYes lim)) ∧ ∃ c1 c2 c3 c4 c5 : Array Value, w' = ((((w.alloc (.cells c1 40)).alloc (.cells c2 34)).alloc (.cells c3 40)).alloc (.cells c4 34)).alloc (.cells c5 34) := by
  go_enter Trym.func15, Trym.ntmps15
  go_wp2_with (go_at_call 27; refine (degraded_yes nm al lim ws sw fb pt h _).mono ?_; rintro e w' ⟨rfl, o1, o2, o3, rfl⟩; unfold decYes)
  simp [bodyPost, results, Trym.results15, go_sem]
  exact ⟨rfl, _, _, _, _, _, rfl⟩
end Go.Proofs.Qxb6608932aMods
