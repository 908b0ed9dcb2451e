/-
  The walk of FnAboveTrichotomy: it returns true at every input.
-/
import Derived.Test.Qxb6609010aModsBorrows
import Derived.ChangeKeysEq
namespace Go.Proofs.Qxb6609010aMods
open Go.RowKit
theorem cells22w : Trym.prog.cellsOf 22 = 1 := by kernel_rfl
theorem info22 : (Trym.prog.info? 22).isSome = true := by kernel_rfl
theorem part_0 (a b c : Value) (w : World) : (part 22 #[a, b, c] 0).run Trym.prog w = .ok a w := by kernel_rfl
theorem part_1 (a b c : Value) (w : World) : (part 22 #[a, b, c] 1).run Trym.prog w = .ok b w := by kernel_rfl
theorem part_2 (a b c : Value) (w : World) : (part 22 #[a, b, c] 2).run Trym.prog w = .ok c w := by kernel_rfl
/-- Two arrays of three words, compared. -/
theorem arr_eq (x0 x1 x2 y0 y1 y2 : Int) (w : World) :
    (Op.equalIn 10000 23 (.agg #[.int .u64 x0, .int .u64 x1, .int .u64 x2]) (.agg #[.int .u64 y0, .int .u64 y1, .int .u64 y2])).run Trym.prog w = .ok (decide (x0 = y0 ∧ x1 = y1 ∧ x2 = y2)) w := by
  obtain ⟨i, hi⟩ := Option.isSome_iff_exists.1 info22
  rw [run_equalIn_array w 9999 _ _ Trym.underlying23 hi, cells22w, show List.range 3 = [0, 1, 2] from rfl]
  by_cases h0 : x0 = y0 <;> by_cases h1 : x1 = y1 <;> by_cases h2 : x2 = y2 <;>
    simp [Op.eqItems, part_0, part_1, part_2, run_equalIn_int _ _ _ _ _ _ _ Trym.underlying22, h0, h1, h2]
theorem eql_arr (x0 x1 x2 y0 y1 y2 : Int) (w : World) :
    (binOp .eql 23 (.agg #[.int .u64 x0, .int .u64 x1, .int .u64 x2]) (.agg #[.int .u64 y0, .int .u64 y1, .int .u64 y2])).run Trym.prog w = .ok (.bool (decide (x0 = y0 ∧ x1 = y1 ∧ x2 = y2))) w := by
  rw [run_eql_struct, arr_eq]; rfl
theorem neq_arr (x0 x1 x2 y0 y1 y2 : Int) (w : World) :
    (binOp .neq 23 (.agg #[.int .u64 x0, .int .u64 x1, .int .u64 x2]) (.agg #[.int .u64 y0, .int .u64 y1, .int .u64 y2])).run Trym.prog w = .ok (.bool (!decide (x0 = y0 ∧ x1 = y1 ∧ x2 = y2))) w := by
  rw [run_neq_struct, arr_eq]; rfl
theorem zzabove_is (f0 f1 f2 g0 g1 g2 : Int) (v : Bool) (hv : abv f0 f1 f2 g0 g1 g2 = v) (w : World) :
    Calls Trym.prog 5 #[.agg #[.int .u64 f0, .int .u64 f1, .int .u64 f2], .agg #[.int .u64 g0, .int .u64 g1, .int .u64 g2]] w fun e w' => e = .returned (.bool v) ∧ Own w w' := by
  rw [← hv]; exact zzabove_any f0 f1 f2 g0 g1 g2 w
theorem borrows_is (x0 x1 x2 y0 y1 y2 : Int) (h0 : Word x0) (h1 : Word x1) (h2 : Word x2) (k0 : Word y0) (k1 : Word y1) (k2 : Word y2) (v : Bool) (hv : (bk x0 x1 x2 y0 y1 y2 3 == 1) = v) (w : World) :
    Calls Trym.prog 6 #[.agg #[.int .u64 x0, .int .u64 x1, .int .u64 x2], .agg #[.int .u64 y0, .int .u64 y1, .int .u64 y2]] w fun e w' => e = .returned (.bool v) ∧ Own w w' := by
  rw [← hv]; exact borrows_any x0 x1 x2 y0 y1 y2 h0 h1 h2 k0 k1 k2 w

/-- The plain law. -/
theorem bk_abv (x0 x1 x2 y0 y1 y2 : Int) : (bk y0 y1 y2 x0 x1 x2 3 == 1) = abv x0 x1 x2 y0 y1 y2 := by
  show (bo y2 x2 (bo y1 x1 (bo y0 x0 0)) == 1) = abv x0 x1 x2 y0 y1 y2
  unfold bo abv
  rw [Bool.eq_iff_iff, beq_iff_eq, decide_eq_true_iff]
  by_cases a : y0 < x0 + 0
  · rw [if_pos a]
    by_cases b : y1 < x1 + 1
    · rw [if_pos b]
      by_cases c : y2 < x2 + 1
      · rw [if_pos c]; omega
      · rw [if_neg c]; omega
    · rw [if_neg b]
      by_cases c : y2 < x2 + 0
      · rw [if_pos c]; omega
      · rw [if_neg c]; omega
  · rw [if_neg a]
    by_cases b : y1 < x1 + 0
    · rw [if_pos b]
      by_cases c : y2 < x2 + 1
      · rw [if_pos c]; omega
      · rw [if_neg c]; omega
    · rw [if_neg b]
      by_cases c : y2 < x2 + 0
      · rw [if_pos c]; omega
      · rw [if_neg c]; omega
theorem tri (x0 x1 x2 y0 y1 y2 : Int) :
    (abv x0 x1 x2 y0 y1 y2 = true ∧ abv y0 y1 y2 x0 x1 x2 = false ∧ decide (x0 = y0 ∧ x1 = y1 ∧ x2 = y2) = false) ∨
    (abv x0 x1 x2 y0 y1 y2 = false ∧ abv y0 y1 y2 x0 x1 x2 = true ∧ decide (x0 = y0 ∧ x1 = y1 ∧ x2 = y2) = false) ∨
    (abv x0 x1 x2 y0 y1 y2 = false ∧ abv y0 y1 y2 x0 x1 x2 = false ∧ decide (x0 = y0 ∧ x1 = y1 ∧ x2 = y2) = true) := by
  unfold abv
  simp only [decide_eq_true_iff, decide_eq_false_iff_not]
  omega

namespace fnAboveTrichotomy
set_option maxRecDepth 100000 in
set_option maxHeartbeats 1000000 in
theorem walk_gt (x0 x1 x2 y0 y1 y2 : Int) (h0 : Word x0) (h1 : Word x1) (h2 : Word x2) (k0 : Word y0) (k1 : Word y1) (k2 : Word y2)
    (hfg : Hid (abv x0 x1 x2 y0 y1 y2 = true)) (hgf : Hid (abv y0 y1 y2 x0 x1 x2 = false)) (heq : decide (x0 = y0 ∧ x1 = y1 ∧ x2 = y2) = false) (w : World) :
    Calls Trym.prog 3 #[.agg #[.int .u64 x0, .int .u64 x1, .int .u64 x2], .agg #[.int .u64 y0, .int .u64 y1, .int .u64 y2]] w fun e w' => e = .returned (.bool true) ∧ Own w w' := by
  have q1 := fun w => (eql_arr x0 x1 x2 y0 y1 y2 w).trans (by rw [heq])
  have q2 := fun w => (arr_eq x0 x1 x2 y0 y1 y2 w).trans (by rw [heq])
  have hbk := hide ((bk_abv x0 x1 x2 y0 y1 y2).trans (unhide hfg))
  clear heq
  go_enter Trym.func3, Trym.ntmps3
  go_wp2_with fail
  refine (zzabove_is x0 x1 x2 y0 y1 y2 _ (unhide hfg) _).mono ?_
  rintro e w1 ⟨rfl, o1⟩
  have c1 := o1.cell
  have s1 := o1.size
  simp only [World.size_alloc] at c1 s1
  go_wp2_with fail
  refine (zzabove_is y0 y1 y2 x0 x1 x2 _ (unhide hgf) _).mono ?_
  rintro e w2 ⟨rfl, o2⟩
  have c2 : ∀ b o, b < w.heap.size + 1 + 1 → w2.cell? ⟨b, o, none⟩ = w1.cell? ⟨b, o, none⟩ := fun b o hb => o2.cell b o (by omega)
  go_wp2_with fail
  refine (borrows_is y0 y1 y2 x0 x1 x2 k0 k1 k2 h0 h1 h2 _ (unhide hbk) _).mono ?_
  rintro e w3 ⟨rfl, o3⟩
  go_wp2
  go_ret
  exact ⟨rfl, (((((Own.refl _).alloc _ _).alloc _ _).trans o1).trans o2).trans o3⟩

set_option maxRecDepth 100000 in
set_option maxHeartbeats 1000000 in
theorem walk_lt (x0 x1 x2 y0 y1 y2 : Int) (h0 : Word x0) (h1 : Word x1) (h2 : Word x2) (k0 : Word y0) (k1 : Word y1) (k2 : Word y2)
    (hfg : Hid (abv x0 x1 x2 y0 y1 y2 = false)) (hgf : Hid (abv y0 y1 y2 x0 x1 x2 = true)) (heq : decide (x0 = y0 ∧ x1 = y1 ∧ x2 = y2) = false) (w : World) :
    Calls Trym.prog 3 #[.agg #[.int .u64 x0, .int .u64 x1, .int .u64 x2], .agg #[.int .u64 y0, .int .u64 y1, .int .u64 y2]] w fun e w' => e = .returned (.bool true) ∧ Own w w' := by
  have q1 := fun w => (eql_arr x0 x1 x2 y0 y1 y2 w).trans (by rw [heq])
  have q2 := fun w => (arr_eq x0 x1 x2 y0 y1 y2 w).trans (by rw [heq])
  have hbk := hide ((bk_abv x0 x1 x2 y0 y1 y2).trans (unhide hfg))
  clear heq
  go_enter Trym.func3, Trym.ntmps3
  go_wp2_with fail
  refine (zzabove_is x0 x1 x2 y0 y1 y2 _ (unhide hfg) _).mono ?_
  rintro e w1 ⟨rfl, o1⟩
  have c1 := o1.cell
  have s1 := o1.size
  simp only [World.size_alloc] at c1 s1
  go_wp2_with fail
  refine (zzabove_is y0 y1 y2 x0 x1 x2 _ (unhide hgf) _).mono ?_
  rintro e w2 ⟨rfl, o2⟩
  have c2 : ∀ b o, b < w.heap.size + 1 + 1 → w2.cell? ⟨b, o, none⟩ = w1.cell? ⟨b, o, none⟩ := fun b o hb => o2.cell b o (by omega)
  go_wp2_with fail
  refine (borrows_is y0 y1 y2 x0 x1 x2 k0 k1 k2 h0 h1 h2 _ (unhide hbk) _).mono ?_
  rintro e w3 ⟨rfl, o3⟩
  go_wp2
  go_ret
  exact ⟨rfl, (((((Own.refl _).alloc _ _).alloc _ _).trans o1).trans o2).trans o3⟩

set_option maxRecDepth 100000 in
set_option maxHeartbeats 1000000 in
theorem walk_eq (x0 x1 x2 y0 y1 y2 : Int) (h0 : Word x0) (h1 : Word x1) (h2 : Word x2) (k0 : Word y0) (k1 : Word y1) (k2 : Word y2)
    (hfg : Hid (abv x0 x1 x2 y0 y1 y2 = false)) (hgf : Hid (abv y0 y1 y2 x0 x1 x2 = false)) (heq : decide (x0 = y0 ∧ x1 = y1 ∧ x2 = y2) = true) (w : World) :
    Calls Trym.prog 3 #[.agg #[.int .u64 x0, .int .u64 x1, .int .u64 x2], .agg #[.int .u64 y0, .int .u64 y1, .int .u64 y2]] w fun e w' => e = .returned (.bool true) ∧ Own w w' := by
  have q1 := fun w => (eql_arr x0 x1 x2 y0 y1 y2 w).trans (by rw [heq])
  have q2 := fun w => (arr_eq x0 x1 x2 y0 y1 y2 w).trans (by rw [heq])
  have hbk := hide ((bk_abv x0 x1 x2 y0 y1 y2).trans (unhide hfg))
  clear heq
  go_enter Trym.func3, Trym.ntmps3
  go_wp2_with fail
  refine (zzabove_is x0 x1 x2 y0 y1 y2 _ (unhide hfg) _).mono ?_
  rintro e w1 ⟨rfl, o1⟩
  have c1 := o1.cell
  have s1 := o1.size
  simp only [World.size_alloc] at c1 s1
  go_wp2_with fail
  refine (zzabove_is y0 y1 y2 x0 x1 x2 _ (unhide hgf) _).mono ?_
  rintro e w2 ⟨rfl, o2⟩
  have c2 : ∀ b o, b < w.heap.size + 1 + 1 → w2.cell? ⟨b, o, none⟩ = w1.cell? ⟨b, o, none⟩ := fun b o hb => o2.cell b o (by omega)
  go_wp2_with fail
  refine (borrows_is y0 y1 y2 x0 x1 x2 k0 k1 k2 h0 h1 h2 _ (unhide hbk) _).mono ?_
  rintro e w3 ⟨rfl, o3⟩
  go_wp2
  go_ret
  exact ⟨rfl, (((((Own.refl _).alloc _ _).alloc _ _).trans o1).trans o2).trans o3⟩

theorem walk (x0 x1 x2 y0 y1 y2 : Int) (h0 : Word x0) (h1 : Word x1) (h2 : Word x2) (k0 : Word y0) (k1 : Word y1) (k2 : Word y2) (w : World) :
    Calls Trym.prog 3 #[.agg #[.int .u64 x0, .int .u64 x1, .int .u64 x2], .agg #[.int .u64 y0, .int .u64 y1, .int .u64 y2]] w fun e w' => e = .returned (.bool true) ∧ Own w w' := by
  rcases tri x0 x1 x2 y0 y1 y2 with ⟨a, b, c⟩ | ⟨a, b, c⟩ | ⟨a, b, c⟩
  · exact walk_gt x0 x1 x2 y0 y1 y2 h0 h1 h2 k0 k1 k2 (hide a) (hide b) c w
  · exact walk_lt x0 x1 x2 y0 y1 y2 h0 h1 h2 k0 k1 k2 (hide a) (hide b) c w
  · exact walk_eq x0 x1 x2 y0 y1 y2 h0 h1 h2 k0 k1 k2 (hide a) (hide b) c w
end fnAboveTrichotomy
end Go.Proofs.Qxb6609010aMods
