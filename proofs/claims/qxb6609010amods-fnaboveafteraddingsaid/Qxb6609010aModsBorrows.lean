/-
  The walk of zzBorrows.
-/
import Derived.Test.Qxb6609010aModsWords
namespace Go.Proofs.Qxb6609010aMods
open Go.RowKit
/-- The borrow behind k rounds. -/
def bk (x0 x1 x2 y0 y1 y2 : Int) : Nat → Int
  | 0 => 0
  | 1 => bo x0 y0 0
  | 2 => bo x1 y1 (bo x0 y0 0)
  | _ => bo x2 y2 (bo x1 y1 (bo x0 y0 0))
/-- The same, as the walk spells it. -/
theorem borrow_step (x y b : Int) (hx : Word x) (hy : Word y) (hb0 : 0 ≤ b) (hb1 : b ≤ 1) :
    bits .or .u64 (bits .and .u64 (bits .xor .u64 (if IntKind.u64.signed = true then -1 else IntKind.u64.max) x) y) (bits .and .u64 (bits .xor .u64 (if IntKind.u64.signed = true then -1 else IntKind.u64.max) (bits .xor .u64 x y)) (IntKind.u64.wrap (IntKind.u64.wrap (x - y) - b))) / 9223372036854775808 = bo x y b := by
  rw [if_neg (by decide)]
  exact borrow_bits x y b hx hy hb0 hb1

set_option maxRecDepth 100000 in
set_option maxHeartbeats 1000000 in
theorem borrows_any (x0 x1 x2 y0 y1 y2 : Int) (h0 : Word x0) (h1 : Word x1) (h2 : Word x2) (k0 : Word y0) (k1 : Word y1) (k2 : Word y2) (w : World) :
    Calls Trym.prog 6 #[.agg #[.int .u64 x0, .int .u64 x1, .int .u64 x2], .agg #[.int .u64 y0, .int .u64 y1, .int .u64 y2]] w fun e w' => e = .returned (.bool (bk x0 x1 x2 y0 y1 y2 3 == 1)) ∧ Own w w' := by
  go_enter Trym.func6, Trym.ntmps6
  go_wp2
  go_loopw [5, 6] (fun t i wr => ∃ (k : Nat) (b : Int) (n : Nat), k ≤ 3 ∧ i = .int .i64 k ∧ t = .int .u64 b ∧ 0 ≤ b ∧ b ≤ 1 ∧ Hid (b = bk x0 x1 x2 y0 y1 y2 k) ∧ wr = ((w.alloc (.cells #[.int .u64 x0, .int .u64 x1, .int .u64 x2] 23)).alloc (.cells #[.int .u64 y0, .int .u64 y1, .int .u64 y2] 23)).drewN n) (fun _ i _ => 3 - (intOf i).toNat)
  case atStart => exact ⟨0, 0, 0, by omega, rfl, rfl, by omega, by omega, hide rfl, rfl⟩
  case round =>
    obtain ⟨k, b, n, hk, rfl, rfl, hb0, hb1, hb, rfl⟩ := hrel
    have hk4 : k = 0 ∨ k = 1 ∨ k = 2 ∨ k = 3 := by omega
    rcases hk4 with rfl | rfl | rfl | rfl
    · go_wp2
      go_quiet (fail)
      go_wp2
      go_quiet (fail)
      go_wp2
      refine ⟨⟨1, bo x0 y0 b, _, by omega, rfl, congrArg (Value.int .u64) (borrow_step x0 y0 b h0 k0 hb0 hb1), (bo_bd _ _ _).1, (bo_bd _ _ _).2, hide (by rw [unhide hb]; rfl), rfl⟩, by simp [intOf]⟩
    · go_wp2
      go_quiet (fail)
      go_wp2
      go_quiet (fail)
      go_wp2
      refine ⟨⟨2, bo x1 y1 b, _, by omega, rfl, congrArg (Value.int .u64) (borrow_step x1 y1 b h1 k1 hb0 hb1), (bo_bd _ _ _).1, (bo_bd _ _ _).2, hide (by rw [unhide hb]; rfl), rfl⟩, by simp [intOf]⟩
    · go_wp2
      go_quiet (fail)
      go_wp2
      go_quiet (fail)
      go_wp2
      refine ⟨⟨3, bo x2 y2 b, _, by omega, rfl, congrArg (Value.int .u64) (borrow_step x2 y2 b h2 k2 hb0 hb1), (bo_bd _ _ _).1, (bo_bd _ _ _).2, hide (by rw [unhide hb]; rfl), rfl⟩, by simp [intOf]⟩
    · have HB := hide (congrArg (fun z => z == 1) (unhide hb))
      go_wp2
      go_ret
      exact ⟨ret_bool (unhide HB), by repeat (first | (with_reducible exact Own.refl _) | (with_reducible apply Own.drewN) | (with_reducible apply Own.alloc))⟩
end Go.Proofs.Qxb6609010aMods
