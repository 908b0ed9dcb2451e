/-
  The walks of zzPolicy, zzSameDecision and of the two bounds on total length.
-/
import Derived.Test.Qxb6608932aModsDegraded
namespace Go.Proofs.Qxb6608932aMods
open Go.RowKit

set_option maxRecDepth 100000 in
set_option maxHeartbeats 1000000 in
theorem policy_bare (nm al : ByteArray) (lim ws sw : Int) (fb : ByteArray) (ed ek : ByteArray) (w : World) :
    Calls Trym.prog 16 #[.string nm, .string al, .int .i64 lim, .int .i64 ws, .int .i64 sw, .string fb, .bool false, .string ed, .string ek] w fun e w' =>
      e = .returned (.agg #[.string nm, .string al, .int .i64 lim, .int .i64 ws, .int .i64 sw, .string fb, .pointer none]) ∧ ∃ c1 c2 : Array Value, w' = (w.alloc (.cells c1 40)).alloc (.cells c2 40) := by
  go_enter Trym.func16, Trym.ntmps16
  go_wp2
  simp [bodyPost, results, Trym.results16, go_sem]
  exact ⟨_, _, rfl⟩

set_option maxRecDepth 100000 in
set_option maxHeartbeats 1000000 in
theorem policy_envoy (nm al : ByteArray) (lim ws sw : Int) (fb : ByteArray) (ed ek : ByteArray) (w : World) :
    Calls Trym.prog 16 #[.string nm, .string al, .int .i64 lim, .int .i64 ws, .int .i64 sw, .string fb, .bool true, .string ed, .string ek] w fun e w' =>
      e = .returned (.agg #[.string nm, .string al, .int .i64 lim, .int .i64 ws, .int .i64 sw, .string fb, .pointer (some ⟨w.heap.size + 2, 0, none⟩)]) ∧ ∃ c1 c2 c3 : Array Value, w' = ((w.alloc (.cells c1 40)).alloc (.cells c2 40)).alloc (.cells c3 54) := by
  go_enter Trym.func16, Trym.ntmps16
  go_wp2
  simp [bodyPost, results, Trym.results16, go_sem]
  exact ⟨_, _, _, rfl⟩

/-- The zero time equals the zero time. -/
theorem time_eq : ∀ w : World, (binOp .eql 32 (.agg #[.int .u64 0, .int .i64 0, .pointer none]) (.agg #[.int .u64 0, .int .i64 0, .pointer none])).run Trym.prog w = .ok (.bool true) w := fun _ => by kernel_rfl

set_option maxRecDepth 100000 in
set_option maxHeartbeats 1000000 in
theorem same_no (lim : Int) (w : World) :
    Calls Trym.prog 17 #[.agg #[.bool false, .int .i64 lim, .int .i64 0, .int .i64 1000000000, .int .u64 0, .int .i64 0, .pointer none, .int .u64 0, .int .i64 0, .pointer none, .bool true], .agg #[.bool false, .int .i64 lim, .int .i64 0, .int .i64 1000000000, .int .u64 0, .int .i64 0, .pointer none, .int .u64 0, .int .i64 0, .pointer none, .bool true]] w fun e w' =>
      e = .returned (.bool true) ∧ ∃ c1 c2 : Array Value, w' = (w.alloc (.cells c1 34)).alloc (.cells c2 34) := by
  have tq := time_eq
  go_enter Trym.func17, Trym.ntmps17
  go_wp2
  go_ret
  exact ⟨rfl, _, _, rfl⟩

set_option maxRecDepth 100000 in
set_option maxHeartbeats 1000000 in
theorem same_yes (lim : Int) (w : World) :
    Calls Trym.prog 17 #[.agg #[.bool true, .int .i64 lim, .int .i64 0, .int .i64 0, .int .u64 0, .int .i64 0, .pointer none, .int .u64 0, .int .i64 0, .pointer none, .bool true], .agg #[.bool true, .int .i64 lim, .int .i64 0, .int .i64 0, .int .u64 0, .int .i64 0, .pointer none, .int .u64 0, .int .i64 0, .pointer none, .bool true]] w fun e w' =>
      e = .returned (.bool true) ∧ ∃ c1 c2 : Array Value, w' = (w.alloc (.cells c1 34)).alloc (.cells c2 34) := by
  have tq := time_eq
  go_enter Trym.func17, Trym.ntmps17
  go_wp2
  go_ret
  exact ⟨rfl, _, _, rfl⟩

set_option maxHeartbeats 1000000 in
theorem bytes14_yes (a b : ByteArray) (i1 i2 i3 : Int) (c : ByteArray) (p : Bool) (d f : ByteArray) (h : a.size + b.size + c.size + d.size + f.size ≤ 1048576) (w : World) :
    Calls Trym.prog 14 #[.string a, .string b, .int .i64 i1, .int .i64 i2, .int .i64 i3, .string c, .bool p, .string d, .string f] w fun e w' => e = .returned (.bool true) ∧ w' = w := by
  go_enter Trym.func14, Trym.ntmps14
  go_wp2
  go_ret
  exact ⟨rfl, rfl⟩
set_option maxHeartbeats 1000000 in
theorem bytes14_no (a b : ByteArray) (i1 i2 i3 : Int) (c : ByteArray) (p : Bool) (d f : ByteArray) (ha : a.size ≤ maxLen) (hb : b.size ≤ maxLen) (hc : c.size ≤ maxLen) (hd : d.size ≤ maxLen) (hf : f.size ≤ maxLen) (h : ¬ a.size + b.size + c.size + d.size + f.size ≤ 1048576) (w : World) :
    Calls Trym.prog 14 #[.string a, .string b, .int .i64 i1, .int .i64 i2, .int .i64 i3, .string c, .bool p, .string d, .string f] w fun e w' => e = .returned (.bool false) ∧ w' = w := by
  unfold maxLen at ha hb hc hd hf
  go_enter Trym.func14, Trym.ntmps14
  go_wp2
  all_goals (go_ret; exact ⟨rfl, rfl⟩)
set_option maxHeartbeats 1000000 in
theorem bytes18_yes (a b : ByteArray) (i1 i2 i3 : Int) (c : ByteArray) (p : Bool) (d f : ByteArray) (h : a.size + b.size + c.size + d.size + f.size ≤ 1048576) (w : World) :
    Calls Trym.prog 18 #[.string a, .string b, .int .i64 i1, .int .i64 i2, .int .i64 i3, .string c, .bool p, .string d, .string f] w fun e w' => e = .returned (.bool true) ∧ w' = w := by
  go_enter Trym.func18, Trym.ntmps18
  go_wp2
  go_ret
  exact ⟨rfl, rfl⟩
set_option maxHeartbeats 1000000 in
theorem bytes18_no (a b : ByteArray) (i1 i2 i3 : Int) (c : ByteArray) (p : Bool) (d f : ByteArray) (ha : a.size ≤ maxLen) (hb : b.size ≤ maxLen) (hc : c.size ≤ maxLen) (hd : d.size ≤ maxLen) (hf : f.size ≤ maxLen) (h : ¬ a.size + b.size + c.size + d.size + f.size ≤ 1048576) (w : World) :
    Calls Trym.prog 18 #[.string a, .string b, .int .i64 i1, .int .i64 i2, .int .i64 i3, .string c, .bool p, .string d, .string f] w fun e w' => e = .returned (.bool false) ∧ w' = w := by
  unfold maxLen at ha hb hc hd hf
  go_enter Trym.func18, Trym.ntmps18
  go_wp2
  all_goals (go_ret; exact ⟨rfl, rfl⟩)
end Go.Proofs.Qxb6608932aMods
