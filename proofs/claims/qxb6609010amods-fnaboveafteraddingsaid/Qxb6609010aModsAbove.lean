/-
  The walks of wideFactor.above and ZZabove: the order of 192-bit numbers, word by word.
-/
import Derived.Test.Qxb6609010aModsOwn
namespace Go.Proofs.Qxb6609010aMods
open Go.RowKit

/-- f above g, the most significant word last. -/
def abv (f0 f1 f2 g0 g1 g2 : Int) : Bool := decide (g2 < f2 ∨ (f2 = g2 ∧ (g1 < f1 ∨ (f1 = g1 ∧ g0 < f0))))

theorem abv_top {f0 f1 f2 g0 g1 g2 : Int} (h : f2 ≠ g2) : decide (g2 < f2) = abv f0 f1 f2 g0 g1 g2 := by
  unfold abv; apply decide_eq_decide.2; constructor
  · intro a; exact Or.inl a
  · intro a; omega
theorem abv_mid {f0 f1 f2 g0 g1 : Int} (h : f1 ≠ g1) : decide (g1 < f1) = abv f0 f1 f2 g0 g1 f2 := by
  unfold abv; apply decide_eq_decide.2; constructor
  · intro a; exact Or.inr ⟨rfl, Or.inl a⟩
  · intro a; omega
theorem abv_low {f0 f1 f2 g0 : Int} : decide (g0 < f0) = abv f0 f1 f2 g0 f1 f2 := by
  unfold abv; apply decide_eq_decide.2; constructor
  · intro a; exact Or.inr ⟨rfl, Or.inr ⟨rfl, a⟩⟩
  · intro a; omega

set_option maxRecDepth 100000 in
set_option maxHeartbeats 1000000 in
theorem above_top (f0 f1 f2 g0 g1 g2 : Int) (h : f2 ≠ g2) (w : World) :
    Calls Trym.prog 8 #[.agg #[.int .u64 f0, .int .u64 f1, .int .u64 f2], .agg #[.int .u64 g0, .int .u64 g1, .int .u64 g2]] w fun e w' => e = .returned (.bool (decide (g2 < f2))) ∧ Own w w' := by
  have b2 : (f2 != g2) = true := by rw [bne_iff_ne]; exact h
  go_enter Trym.func8, Trym.ntmps8
  go_wp2
  refine wp_loop_rounds 3 ?_
  rw [rounds_succ]
  go_wp2
  go_quiet (fail)
  go_wp2
  go_quiet (fail)
  go_wp2
  go_ret
  exact ⟨rfl, by repeat (first | (with_reducible exact Own.refl _) | (with_reducible apply Own.drewN) | (with_reducible apply Own.alloc))⟩

set_option maxRecDepth 100000 in
set_option maxHeartbeats 1000000 in
theorem above_mid (f0 f1 f2 g0 g1 : Int) (h : f1 ≠ g1) (w : World) :
    Calls Trym.prog 8 #[.agg #[.int .u64 f0, .int .u64 f1, .int .u64 f2], .agg #[.int .u64 g0, .int .u64 g1, .int .u64 f2]] w fun e w' => e = .returned (.bool (decide (g1 < f1))) ∧ Own w w' := by
  have b2 : (f2 != f2) = false := bne_self_eq_false _
  have b1 : (f1 != g1) = true := by rw [bne_iff_ne]; exact h
  go_enter Trym.func8, Trym.ntmps8
  go_wp2
  refine wp_loop_rounds 3 ?_
  rw [rounds_succ]
  go_wp2
  go_quiet (fail)
  go_wp2
  rw [rounds_succ]
  go_wp2
  go_quiet (fail)
  go_wp2
  go_quiet (fail)
  go_wp2
  go_ret
  exact ⟨rfl, by repeat (first | (with_reducible exact Own.refl _) | (with_reducible apply Own.drewN) | (with_reducible apply Own.alloc))⟩

set_option maxRecDepth 100000 in
set_option maxHeartbeats 1000000 in
theorem above_low (f0 f1 f2 g0 : Int) (h : f0 ≠ g0) (w : World) :
    Calls Trym.prog 8 #[.agg #[.int .u64 f0, .int .u64 f1, .int .u64 f2], .agg #[.int .u64 g0, .int .u64 f1, .int .u64 f2]] w fun e w' => e = .returned (.bool (decide (g0 < f0))) ∧ Own w w' := by
  have b2 : (f2 != f2) = false := bne_self_eq_false _
  have b1 : (f1 != f1) = false := bne_self_eq_false _
  have b0 : (f0 != g0) = true := by rw [bne_iff_ne]; exact h
  go_enter Trym.func8, Trym.ntmps8
  go_wp2
  refine wp_loop_rounds 3 ?_
  rw [rounds_succ]
  go_wp2
  go_quiet (fail)
  go_wp2
  rw [rounds_succ]
  go_wp2
  go_quiet (fail)
  go_wp2
  rw [rounds_succ]
  go_wp2
  go_quiet (fail)
  go_wp2
  go_quiet (fail)
  go_wp2
  go_ret
  exact ⟨rfl, by repeat (first | (with_reducible exact Own.refl _) | (with_reducible apply Own.drewN) | (with_reducible apply Own.alloc))⟩

set_option maxRecDepth 100000 in
set_option maxHeartbeats 1000000 in
theorem above_same (f0 f1 f2 : Int) (w : World) :
    Calls Trym.prog 8 #[.agg #[.int .u64 f0, .int .u64 f1, .int .u64 f2], .agg #[.int .u64 f0, .int .u64 f1, .int .u64 f2]] w fun e w' => e = .returned (.bool false) ∧ Own w w' := by
  have b2 : (f2 != f2) = false := bne_self_eq_false _
  have b1 : (f1 != f1) = false := bne_self_eq_false _
  have b0 : (f0 != f0) = false := bne_self_eq_false _
  go_enter Trym.func8, Trym.ntmps8
  go_wp2
  refine wp_loop_rounds 4 ?_
  rw [rounds_succ]
  go_wp2
  go_quiet (fail)
  go_wp2
  rw [rounds_succ]
  go_wp2
  go_quiet (fail)
  go_wp2
  rw [rounds_succ]
  go_wp2
  go_quiet (fail)
  go_wp2
  rw [rounds_succ]
  go_wp2
  go_ret
  exact ⟨rfl, by repeat (first | (with_reducible exact Own.refl _) | (with_reducible apply Own.drewN) | (with_reducible apply Own.alloc))⟩

theorem above_any (f0 f1 f2 g0 g1 g2 : Int) (w : World) :
    Calls Trym.prog 8 #[.agg #[.int .u64 f0, .int .u64 f1, .int .u64 f2], .agg #[.int .u64 g0, .int .u64 g1, .int .u64 g2]] w fun e w' => e = .returned (.bool (abv f0 f1 f2 g0 g1 g2)) ∧ Own w w' := by
  by_cases h2 : f2 = g2
  · subst h2
    by_cases h1 : f1 = g1
    · subst h1
      by_cases h0 : f0 = g0
      · subst h0
        rw [← abv_low, decide_eq_false (Int.lt_irrefl f0)]
        exact above_same f0 f1 f2 w
      · rw [← abv_low]
        exact above_low f0 f1 f2 g0 h0 w
    · rw [← abv_mid h1]
      exact above_mid f0 f1 f2 g0 g1 h1 w
  · rw [← abv_top h2]
    exact above_top f0 f1 f2 g0 g1 g2 h2 w

set_option maxRecDepth 100000 in
set_option maxHeartbeats 1000000 in
theorem zzabove_any (f0 f1 f2 g0 g1 g2 : Int) (w : World) :
    Calls Trym.prog 5 #[.agg #[.int .u64 f0, .int .u64 f1, .int .u64 f2], .agg #[.int .u64 g0, .int .u64 g1, .int .u64 g2]] w fun e w' => e = .returned (.bool (abv f0 f1 f2 g0 g1 g2)) ∧ Own w w' := by
  go_enter Trym.func5, Trym.ntmps5
  go_wp2_with (go_at_call 8; refine (above_any f0 f1 f2 g0 g1 g2 _).mono ?_; rintro e w' ⟨rfl, ho⟩)
  go_ret
  exact ⟨rfl, (((Own.refl _).alloc _ _).alloc _ _).trans ho⟩
end Go.Proofs.Qxb6609010aMods
