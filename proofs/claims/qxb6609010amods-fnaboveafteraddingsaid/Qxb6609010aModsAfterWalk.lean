/-
  The walk of FnAboveAfterAdding: it returns true at every input.
-/
import Derived.Test.Qxb6609010aModsAdd
import Derived.Deep.RegionHeld3
namespace Go.Proofs.Qxb6609010aMods
open Go.RowKit
theorem add_is (x0 x1 x2 y0 y1 y2 : Int) (h0 : Word x0) (h1 : Word x1) (h2 : Word x2) (k0 : Word y0) (k1 : Word y1) (k2 : Word y2) (s0 s1 s2 : Int) (v : Bool)
    (e0 : ad x0 y0 0 = s0) (e1 : ad x1 y1 (ca x0 y0 0) = s1) (e2 : ad x2 y2 (ca x1 y1 (ca x0 y0 0)) = s2) (e3 : (ca x2 y2 (ca x1 y1 (ca x0 y0 0)) == 1) = v) (w : World) :
    Calls Trym.prog 7 #[.agg #[.int .u64 x0, .int .u64 x1, .int .u64 x2], .agg #[.int .u64 y0, .int .u64 y1, .int .u64 y2]] w fun e w' => e = .returned (.tuple #[.agg #[.int .u64 s0, .int .u64 s1, .int .u64 s2], .bool v]) ∧ Own w w' := by
  subst e0 e1 e2 e3
  exact add_any x0 x1 x2 y0 y1 y2 h0 h1 h2 k0 k1 k2 w

/-- What a sum comes to. -/
structure Sum (x0 x1 x2 y0 y1 y2 s0 s1 s2 : Int) (v : Bool) : Prop where
  e0 : ad x0 y0 0 = s0
  e1 : ad x1 y1 (ca x0 y0 0) = s1
  e2 : ad x2 y2 (ca x1 y1 (ca x0 y0 0)) = s2
  e3 : (ca x2 y2 (ca x1 y1 (ca x0 y0 0)) == 1) = v

/-! ### The plain laws: 192-bit numbers as integers -/
def num (x0 x1 x2 : Int) : Int := x0 + 18446744073709551616 * x1 + 340282366920938463463374607431768211456 * x2
theorem abv_num (f0 f1 f2 g0 g1 g2 : Int) (hf0 : Word f0) (hf1 : Word f1) (hf2 : Word f2) (hg0 : Word g0) (hg1 : Word g1) (hg2 : Word g2) :
    abv f0 f1 f2 g0 g1 g2 = decide (num g0 g1 g2 < num f0 f1 f2) := by
  obtain ⟨_, _⟩ := hf0; obtain ⟨_, _⟩ := hf1; obtain ⟨_, _⟩ := hf2; obtain ⟨_, _⟩ := hg0; obtain ⟨_, _⟩ := hg1; obtain ⟨_, _⟩ := hg2
  unfold abv num
  apply decide_eq_decide.2
  omega
theorem word_ad (x y c : Int) : Word (ad x y c) := by unfold ad; exact ⟨by omega, by omega⟩
theorem ad_ca (x y c : Int) : ad x y c + 18446744073709551616 * ca x y c = x + y + c := by unfold ad ca; omega
theorem sum_num {x0 x1 x2 y0 y1 y2 s0 s1 s2 : Int} {v : Bool} (h0 : Word x0) (h1 : Word x1) (h2 : Word x2) (k0 : Word y0) (k1 : Word y1) (k2 : Word y2) (H : Sum x0 x1 x2 y0 y1 y2 s0 s1 s2 v) :
    num s0 s1 s2 + (if v then 6277101735386680763835789423207666416102355444464034512896 else 0) = num x0 x1 x2 + num y0 y1 y2 := by
  obtain ⟨e0, e1, e2, e3⟩ := H
  have b0 := ca_bd x0 y0 0 h0 k0 (by omega) (by omega)
  have b1 := ca_bd x1 y1 (ca x0 y0 0) h1 k1 b0.1 b0.2
  have b2 := ca_bd x2 y2 (ca x1 y1 (ca x0 y0 0)) h2 k2 b1.1 b1.2
  have a0 := ad_ca x0 y0 0
  have a1 := ad_ca x1 y1 (ca x0 y0 0)
  have a2 := ad_ca x2 y2 (ca x1 y1 (ca x0 y0 0))
  rw [e0] at a0; rw [e1] at a1; rw [e2] at a2
  generalize ca x0 y0 0 = c0 at *
  generalize ca x1 y1 c0 = c1 at *
  generalize ca x2 y2 c1 = c2 at *
  unfold num
  cases v with
  | true =>
    have : c2 = 1 := beq_iff_eq.1 e3
    simp only [if_true]
    omega
  | false =>
    have : ¬ c2 = 1 := by
      intro h; rw [h] at e3; exact absurd e3 (by decide)
    simp only [Bool.false_eq_true, if_false]
    omega
theorem num_bd (x0 x1 x2 : Int) (h0 : Word x0) (h1 : Word x1) (h2 : Word x2) : 0 ≤ num x0 x1 x2 ∧ num x0 x1 x2 < 6277101735386680763835789423207666416102355444464034512896 := by
  obtain ⟨_, _⟩ := h0; obtain ⟨_, _⟩ := h1; obtain ⟨_, _⟩ := h2
  unfold num; omega
theorem num_zero (x0 x1 x2 : Int) (h0 : Word x0) (h1 : Word x1) (h2 : Word x2) : (x0 = 0 ∧ x1 = 0 ∧ x2 = 0) ↔ num x0 x1 x2 = 0 := by
  obtain ⟨_, _⟩ := h0; obtain ⟨_, _⟩ := h1; obtain ⟨_, _⟩ := h2
  unfold num; omega

namespace fnAboveAfterAdding
set_option maxRecDepth 100000 in
set_option maxHeartbeats 2000000 in
theorem w_000 (f0 f1 f2 g0 g1 g2 d0 d1 d2 : Int) (hf0 : Word f0) (hf1 : Word f1) (hf2 : Word f2) (hg0 : Word g0) (hg1 : Word g1) (hg2 : Word g2) (hd0 : Word d0) (hd1 : Word d1) (hd2 : Word d2)
    (s0 s1 s2 t0 t1 t2 : Int) (HS : Sum f0 f1 f2 d0 d1 d2 s0 s1 s2 false) (HT : Sum g0 g1 g2 d0 d1 d2 t0 t1 t2 false)
    (hz : decide (d0 = 0 ∧ d1 = 0 ∧ d2 = 0) = true) (A1 : Hid (abv s0 s1 s2 f0 f1 f2 = false)) (A2 : Hid (abv f0 f1 f2 s0 s1 s2 = false)) (ab : Bool) (A3 : Hid (abv s0 s1 s2 t0 t1 t2 = ab)) (A4 : Hid (abv f0 f1 f2 g0 g1 g2 = ab)) (w : World) :
    Calls Trym.prog 4 #[.agg #[.int .u64 f0, .int .u64 f1, .int .u64 f2], .agg #[.int .u64 g0, .int .u64 g1, .int .u64 g2], .agg #[.int .u64 d0, .int .u64 d1, .int .u64 d2]] w fun e w' => e = .returned (.bool true) ∧ Own w w' := by
  have q1 : ∀ w : World, (binOp .neq 23 (.agg #[.int .u64 d0, .int .u64 d1, .int .u64 d2]) (.agg #[.int .u64 0, .int .u64 0, .int .u64 0])).run Trym.prog w = .ok (.bool false) w := fun w => by rw [neq_arr, hz]; rfl
  have q2 : ∀ w : World, (Op.equalIn 10000 23 (.agg #[.int .u64 d0, .int .u64 d1, .int .u64 d2]) (.agg #[.int .u64 0, .int .u64 0, .int .u64 0])).run Trym.prog w = .ok true w := fun w => by rw [arr_eq, hz]
  clear hz
  go_enter Trym.func4, Trym.ntmps4
  go_wp2_with fail
  refine (add_is f0 f1 f2 d0 d1 d2 hf0 hf1 hf2 hd0 hd1 hd2 s0 s1 s2 _ HS.e0 HS.e1 HS.e2 HS.e3 _).mono ?_
  rintro e w1 ⟨rfl, o1⟩
  have c1 := o1.cell
  have z1 := o1.size
  simp only [World.size_alloc] at c1 z1
  have n0 : w.heap.size < w1.heap.size := by omega
  have n1 : w.heap.size + 1 < w1.heap.size := by omega
  have n2 : w.heap.size + 1 + 1 < w1.heap.size := by omega
  go_wp2_with fail
  refine (add_is g0 g1 g2 d0 d1 d2 hg0 hg1 hg2 hd0 hd1 hd2 t0 t1 t2 _ HT.e0 HT.e1 HT.e2 HT.e3 _).mono ?_
  rintro e w2 ⟨rfl, o2⟩
  have c2 : ∀ b o, b < w1.heap.size + 1 → w2.cell? ⟨b, o, none⟩ = (w1.alloc (.cells #[.int .u64 s0, .int .u64 s1, .int .u64 s2] 23)).cell? ⟨b, o, none⟩ := fun b o hb => o2.cell b o (by simpa using hb)
  have z2 : w1.heap.size + 1 ≤ w2.heap.size := by have := o2.size; simpa using this
  have m0 : w.heap.size < w2.heap.size := by omega
  have m1 : w.heap.size + 1 < w2.heap.size := by omega
  have m2 : w.heap.size + 1 + 1 < w2.heap.size := by omega
  have m3 : w1.heap.size < w2.heap.size := by omega
  go_wp2_with fail
  refine (zzabove_is s0 s1 s2 f0 f1 f2 _ (unhide A1) _).mono ?_
  rintro e w3 ⟨rfl, o3⟩
  have y3 := o3.size
  simp only [World.size_alloc] at y3
  have c3 : ∀ b o, b < w2.heap.size + 1 → w3.cell? ⟨b, o, none⟩ = (w2.alloc (.cells #[.int .u64 t0, .int .u64 t1, .int .u64 t2] 23)).cell? ⟨b, o, none⟩ := fun b o hb => o3.cell b o (by simpa using hb)
  go_wp2_with fail
  refine (zzabove_is f0 f1 f2 s0 s1 s2 _ (unhide A2) _).mono ?_
  rintro e w4 ⟨rfl, o4⟩
  have c4 : ∀ b o, b < w2.heap.size + 1 → w4.cell? ⟨b, o, none⟩ = w3.cell? ⟨b, o, none⟩ := fun b o hb => o4.cell b o (by omega)
  have ow : Own w w4 := (((((((((Own.refl w).alloc _ _).alloc _ _).alloc _ _).trans o1).alloc _ _).trans o2).alloc _ _).trans o3).trans o4
  go_wp2
  have S4 : (fun w' : World => w'.cell? ⟨w1.heap.size, 0, none⟩ = some (.int .u64 s0) ∧ w'.cell? ⟨w1.heap.size, 1, none⟩ = some (.int .u64 s1) ∧ w'.cell? ⟨w1.heap.size, 2, none⟩ = some (.int .u64 s2) ∧ w'.cell? ⟨w2.heap.size, 0, none⟩ = some (.int .u64 t0) ∧ w'.cell? ⟨w2.heap.size, 1, none⟩ = some (.int .u64 t1) ∧ w'.cell? ⟨w2.heap.size, 2, none⟩ = some (.int .u64 t2) ∧ w'.cell? ⟨w.heap.size, 0, none⟩ = some (.int .u64 f0) ∧ w'.cell? ⟨w.heap.size, 1, none⟩ = some (.int .u64 f1) ∧ w'.cell? ⟨w.heap.size, 2, none⟩ = some (.int .u64 f2) ∧ w'.cell? ⟨w.heap.size + 1, 0, none⟩ = some (.int .u64 g0) ∧ w'.cell? ⟨w.heap.size + 1, 1, none⟩ = some (.int .u64 g1) ∧ w'.cell? ⟨w.heap.size + 1, 2, none⟩ = some (.int .u64 g2)) w4 := by
    simp [c4, c3, c2, c1, go_sem, n0, n1, m0, m1, m3]
  clear c1 c2 c3 c4
  go_region_held3 (fun w' => w'.cell? ⟨w1.heap.size, 0, none⟩ = some (.int .u64 s0) ∧ w'.cell? ⟨w1.heap.size, 1, none⟩ = some (.int .u64 s1) ∧ w'.cell? ⟨w1.heap.size, 2, none⟩ = some (.int .u64 s2) ∧ w'.cell? ⟨w2.heap.size, 0, none⟩ = some (.int .u64 t0) ∧ w'.cell? ⟨w2.heap.size, 1, none⟩ = some (.int .u64 t1) ∧ w'.cell? ⟨w2.heap.size, 2, none⟩ = some (.int .u64 t2) ∧ w'.cell? ⟨w.heap.size, 0, none⟩ = some (.int .u64 f0) ∧ w'.cell? ⟨w.heap.size, 1, none⟩ = some (.int .u64 f1) ∧ w'.cell? ⟨w.heap.size, 2, none⟩ = some (.int .u64 f2) ∧ w'.cell? ⟨w.heap.size + 1, 0, none⟩ = some (.int .u64 g0) ∧ w'.cell? ⟨w.heap.size + 1, 1, none⟩ = some (.int .u64 g1) ∧ w'.cell? ⟨w.heap.size + 1, 2, none⟩ = some (.int .u64 g2)) (first | assumption | go_keep)
    (first
      | (go_at_call_of 5 (Value.int .u64 t0); refine (zzabove_is s0 s1 s2 t0 t1 t2 _ (unhide A3) _).mono ?_; rintro e w' ⟨rfl, ho⟩; have hk := fun a v h => cell_later (a := a) (v := v) ho.1 h)
      | (go_at_call_of 5 (Value.int .u64 g0); refine (zzabove_is f0 f1 f2 g0 g1 g2 _ (unhide A4) _).mono ?_; rintro e w' ⟨rfl, ho⟩; have hk := fun a v h => cell_later (a := a) (v := v) ho.1 h))
  all_goals
    go_wp2
    go_ret
    refine ⟨rfl, ow.trans ?_⟩
    repeat (first | (with_reducible exact Own.refl _) | (with_reducible apply Own.drew) | (with_reducible apply Own.drewN) | (refine Own.trans ?_ (by with_reducible assumption)))

set_option maxRecDepth 100000 in
set_option maxHeartbeats 2000000 in
theorem w_001 (f0 f1 f2 g0 g1 g2 d0 d1 d2 : Int) (hf0 : Word f0) (hf1 : Word f1) (hf2 : Word f2) (hg0 : Word g0) (hg1 : Word g1) (hg2 : Word g2) (hd0 : Word d0) (hd1 : Word d1) (hd2 : Word d2)
    (s0 s1 s2 t0 t1 t2 : Int) (HS : Sum f0 f1 f2 d0 d1 d2 s0 s1 s2 false) (HT : Sum g0 g1 g2 d0 d1 d2 t0 t1 t2 false)
    (hz : decide (d0 = 0 ∧ d1 = 0 ∧ d2 = 0) = false) (A1 : Hid (abv s0 s1 s2 f0 f1 f2 = true)) (A2 : Hid (abv f0 f1 f2 s0 s1 s2 = false)) (ab : Bool) (A3 : Hid (abv s0 s1 s2 t0 t1 t2 = ab)) (A4 : Hid (abv f0 f1 f2 g0 g1 g2 = ab)) (w : World) :
    Calls Trym.prog 4 #[.agg #[.int .u64 f0, .int .u64 f1, .int .u64 f2], .agg #[.int .u64 g0, .int .u64 g1, .int .u64 g2], .agg #[.int .u64 d0, .int .u64 d1, .int .u64 d2]] w fun e w' => e = .returned (.bool true) ∧ Own w w' := by
  have q1 : ∀ w : World, (binOp .neq 23 (.agg #[.int .u64 d0, .int .u64 d1, .int .u64 d2]) (.agg #[.int .u64 0, .int .u64 0, .int .u64 0])).run Trym.prog w = .ok (.bool true) w := fun w => by rw [neq_arr, hz]; rfl
  have q2 : ∀ w : World, (Op.equalIn 10000 23 (.agg #[.int .u64 d0, .int .u64 d1, .int .u64 d2]) (.agg #[.int .u64 0, .int .u64 0, .int .u64 0])).run Trym.prog w = .ok false w := fun w => by rw [arr_eq, hz]
  clear hz
  go_enter Trym.func4, Trym.ntmps4
  go_wp2_with fail
  refine (add_is f0 f1 f2 d0 d1 d2 hf0 hf1 hf2 hd0 hd1 hd2 s0 s1 s2 _ HS.e0 HS.e1 HS.e2 HS.e3 _).mono ?_
  rintro e w1 ⟨rfl, o1⟩
  have c1 := o1.cell
  have z1 := o1.size
  simp only [World.size_alloc] at c1 z1
  have n0 : w.heap.size < w1.heap.size := by omega
  have n1 : w.heap.size + 1 < w1.heap.size := by omega
  have n2 : w.heap.size + 1 + 1 < w1.heap.size := by omega
  go_wp2_with fail
  refine (add_is g0 g1 g2 d0 d1 d2 hg0 hg1 hg2 hd0 hd1 hd2 t0 t1 t2 _ HT.e0 HT.e1 HT.e2 HT.e3 _).mono ?_
  rintro e w2 ⟨rfl, o2⟩
  have c2 : ∀ b o, b < w1.heap.size + 1 → w2.cell? ⟨b, o, none⟩ = (w1.alloc (.cells #[.int .u64 s0, .int .u64 s1, .int .u64 s2] 23)).cell? ⟨b, o, none⟩ := fun b o hb => o2.cell b o (by simpa using hb)
  have z2 : w1.heap.size + 1 ≤ w2.heap.size := by have := o2.size; simpa using this
  have m0 : w.heap.size < w2.heap.size := by omega
  have m1 : w.heap.size + 1 < w2.heap.size := by omega
  have m2 : w.heap.size + 1 + 1 < w2.heap.size := by omega
  have m3 : w1.heap.size < w2.heap.size := by omega
  go_wp2_with fail
  refine (zzabove_is s0 s1 s2 f0 f1 f2 _ (unhide A1) _).mono ?_
  rintro e w3 ⟨rfl, o3⟩
  have y3 := o3.size
  simp only [World.size_alloc] at y3
  have c3 : ∀ b o, b < w2.heap.size + 1 → w3.cell? ⟨b, o, none⟩ = (w2.alloc (.cells #[.int .u64 t0, .int .u64 t1, .int .u64 t2] 23)).cell? ⟨b, o, none⟩ := fun b o hb => o3.cell b o (by simpa using hb)
  go_wp2_with fail
  refine (zzabove_is f0 f1 f2 s0 s1 s2 _ (unhide A2) _).mono ?_
  rintro e w4 ⟨rfl, o4⟩
  have c4 : ∀ b o, b < w2.heap.size + 1 → w4.cell? ⟨b, o, none⟩ = w3.cell? ⟨b, o, none⟩ := fun b o hb => o4.cell b o (by omega)
  have ow : Own w w4 := (((((((((Own.refl w).alloc _ _).alloc _ _).alloc _ _).trans o1).alloc _ _).trans o2).alloc _ _).trans o3).trans o4
  go_wp2
  have S4 : (fun w' : World => w'.cell? ⟨w1.heap.size, 0, none⟩ = some (.int .u64 s0) ∧ w'.cell? ⟨w1.heap.size, 1, none⟩ = some (.int .u64 s1) ∧ w'.cell? ⟨w1.heap.size, 2, none⟩ = some (.int .u64 s2) ∧ w'.cell? ⟨w2.heap.size, 0, none⟩ = some (.int .u64 t0) ∧ w'.cell? ⟨w2.heap.size, 1, none⟩ = some (.int .u64 t1) ∧ w'.cell? ⟨w2.heap.size, 2, none⟩ = some (.int .u64 t2) ∧ w'.cell? ⟨w.heap.size, 0, none⟩ = some (.int .u64 f0) ∧ w'.cell? ⟨w.heap.size, 1, none⟩ = some (.int .u64 f1) ∧ w'.cell? ⟨w.heap.size, 2, none⟩ = some (.int .u64 f2) ∧ w'.cell? ⟨w.heap.size + 1, 0, none⟩ = some (.int .u64 g0) ∧ w'.cell? ⟨w.heap.size + 1, 1, none⟩ = some (.int .u64 g1) ∧ w'.cell? ⟨w.heap.size + 1, 2, none⟩ = some (.int .u64 g2)) w4 := by
    simp [c4, c3, c2, c1, go_sem, n0, n1, m0, m1, m3]
  clear c1 c2 c3 c4
  go_region_held3 (fun w' => w'.cell? ⟨w1.heap.size, 0, none⟩ = some (.int .u64 s0) ∧ w'.cell? ⟨w1.heap.size, 1, none⟩ = some (.int .u64 s1) ∧ w'.cell? ⟨w1.heap.size, 2, none⟩ = some (.int .u64 s2) ∧ w'.cell? ⟨w2.heap.size, 0, none⟩ = some (.int .u64 t0) ∧ w'.cell? ⟨w2.heap.size, 1, none⟩ = some (.int .u64 t1) ∧ w'.cell? ⟨w2.heap.size, 2, none⟩ = some (.int .u64 t2) ∧ w'.cell? ⟨w.heap.size, 0, none⟩ = some (.int .u64 f0) ∧ w'.cell? ⟨w.heap.size, 1, none⟩ = some (.int .u64 f1) ∧ w'.cell? ⟨w.heap.size, 2, none⟩ = some (.int .u64 f2) ∧ w'.cell? ⟨w.heap.size + 1, 0, none⟩ = some (.int .u64 g0) ∧ w'.cell? ⟨w.heap.size + 1, 1, none⟩ = some (.int .u64 g1) ∧ w'.cell? ⟨w.heap.size + 1, 2, none⟩ = some (.int .u64 g2)) (first | assumption | go_keep)
    (first
      | (go_at_call_of 5 (Value.int .u64 t0); refine (zzabove_is s0 s1 s2 t0 t1 t2 _ (unhide A3) _).mono ?_; rintro e w' ⟨rfl, ho⟩; have hk := fun a v h => cell_later (a := a) (v := v) ho.1 h)
      | (go_at_call_of 5 (Value.int .u64 g0); refine (zzabove_is f0 f1 f2 g0 g1 g2 _ (unhide A4) _).mono ?_; rintro e w' ⟨rfl, ho⟩; have hk := fun a v h => cell_later (a := a) (v := v) ho.1 h))
  all_goals
    go_wp2
    go_ret
    refine ⟨rfl, ow.trans ?_⟩
    repeat (first | (with_reducible exact Own.refl _) | (with_reducible apply Own.drew) | (with_reducible apply Own.drewN) | (refine Own.trans ?_ (by with_reducible assumption)))

set_option maxRecDepth 100000 in
set_option maxHeartbeats 2000000 in
theorem w_010 (f0 f1 f2 g0 g1 g2 d0 d1 d2 : Int) (hf0 : Word f0) (hf1 : Word f1) (hf2 : Word f2) (hg0 : Word g0) (hg1 : Word g1) (hg2 : Word g2) (hd0 : Word d0) (hd1 : Word d1) (hd2 : Word d2)
    (s0 s1 s2 t0 t1 t2 : Int) (HS : Sum f0 f1 f2 d0 d1 d2 s0 s1 s2 false) (HT : Sum g0 g1 g2 d0 d1 d2 t0 t1 t2 true)
    (hz : decide (d0 = 0 ∧ d1 = 0 ∧ d2 = 0) = true) (A1 : Hid (abv s0 s1 s2 f0 f1 f2 = false)) (A2 : Hid (abv f0 f1 f2 s0 s1 s2 = false)) (w : World) :
    Calls Trym.prog 4 #[.agg #[.int .u64 f0, .int .u64 f1, .int .u64 f2], .agg #[.int .u64 g0, .int .u64 g1, .int .u64 g2], .agg #[.int .u64 d0, .int .u64 d1, .int .u64 d2]] w fun e w' => e = .returned (.bool true) ∧ Own w w' := by
  have q1 : ∀ w : World, (binOp .neq 23 (.agg #[.int .u64 d0, .int .u64 d1, .int .u64 d2]) (.agg #[.int .u64 0, .int .u64 0, .int .u64 0])).run Trym.prog w = .ok (.bool false) w := fun w => by rw [neq_arr, hz]; rfl
  have q2 : ∀ w : World, (Op.equalIn 10000 23 (.agg #[.int .u64 d0, .int .u64 d1, .int .u64 d2]) (.agg #[.int .u64 0, .int .u64 0, .int .u64 0])).run Trym.prog w = .ok true w := fun w => by rw [arr_eq, hz]
  clear hz
  go_enter Trym.func4, Trym.ntmps4
  go_wp2_with fail
  refine (add_is f0 f1 f2 d0 d1 d2 hf0 hf1 hf2 hd0 hd1 hd2 s0 s1 s2 _ HS.e0 HS.e1 HS.e2 HS.e3 _).mono ?_
  rintro e w1 ⟨rfl, o1⟩
  have c1 := o1.cell
  have z1 := o1.size
  simp only [World.size_alloc] at c1 z1
  have n0 : w.heap.size < w1.heap.size := by omega
  have n1 : w.heap.size + 1 < w1.heap.size := by omega
  have n2 : w.heap.size + 1 + 1 < w1.heap.size := by omega
  go_wp2_with fail
  refine (add_is g0 g1 g2 d0 d1 d2 hg0 hg1 hg2 hd0 hd1 hd2 t0 t1 t2 _ HT.e0 HT.e1 HT.e2 HT.e3 _).mono ?_
  rintro e w2 ⟨rfl, o2⟩
  have c2 : ∀ b o, b < w1.heap.size + 1 → w2.cell? ⟨b, o, none⟩ = (w1.alloc (.cells #[.int .u64 s0, .int .u64 s1, .int .u64 s2] 23)).cell? ⟨b, o, none⟩ := fun b o hb => o2.cell b o (by simpa using hb)
  have z2 : w1.heap.size + 1 ≤ w2.heap.size := by have := o2.size; simpa using this
  have m0 : w.heap.size < w2.heap.size := by omega
  have m1 : w.heap.size + 1 < w2.heap.size := by omega
  have m2 : w.heap.size + 1 + 1 < w2.heap.size := by omega
  have m3 : w1.heap.size < w2.heap.size := by omega
  go_wp2_with fail
  refine (zzabove_is s0 s1 s2 f0 f1 f2 _ (unhide A1) _).mono ?_
  rintro e w3 ⟨rfl, o3⟩
  have y3 := o3.size
  simp only [World.size_alloc] at y3
  have c3 : ∀ b o, b < w2.heap.size + 1 → w3.cell? ⟨b, o, none⟩ = (w2.alloc (.cells #[.int .u64 t0, .int .u64 t1, .int .u64 t2] 23)).cell? ⟨b, o, none⟩ := fun b o hb => o3.cell b o (by simpa using hb)
  go_wp2_with fail
  refine (zzabove_is f0 f1 f2 s0 s1 s2 _ (unhide A2) _).mono ?_
  rintro e w4 ⟨rfl, o4⟩
  have c4 : ∀ b o, b < w2.heap.size + 1 → w4.cell? ⟨b, o, none⟩ = w3.cell? ⟨b, o, none⟩ := fun b o hb => o4.cell b o (by omega)
  have ow : Own w w4 := (((((((((Own.refl w).alloc _ _).alloc _ _).alloc _ _).trans o1).alloc _ _).trans o2).alloc _ _).trans o3).trans o4
  go_wp2
  go_quiet (fail)
  go_wp2
  go_ret
  refine ⟨rfl, ow.trans ?_⟩
  repeat (first | (with_reducible exact Own.refl _) | (with_reducible apply Own.drew) | (with_reducible apply Own.drewN))

set_option maxRecDepth 100000 in
set_option maxHeartbeats 2000000 in
theorem w_011 (f0 f1 f2 g0 g1 g2 d0 d1 d2 : Int) (hf0 : Word f0) (hf1 : Word f1) (hf2 : Word f2) (hg0 : Word g0) (hg1 : Word g1) (hg2 : Word g2) (hd0 : Word d0) (hd1 : Word d1) (hd2 : Word d2)
    (s0 s1 s2 t0 t1 t2 : Int) (HS : Sum f0 f1 f2 d0 d1 d2 s0 s1 s2 false) (HT : Sum g0 g1 g2 d0 d1 d2 t0 t1 t2 true)
    (hz : decide (d0 = 0 ∧ d1 = 0 ∧ d2 = 0) = false) (A1 : Hid (abv s0 s1 s2 f0 f1 f2 = true)) (A2 : Hid (abv f0 f1 f2 s0 s1 s2 = false)) (w : World) :
    Calls Trym.prog 4 #[.agg #[.int .u64 f0, .int .u64 f1, .int .u64 f2], .agg #[.int .u64 g0, .int .u64 g1, .int .u64 g2], .agg #[.int .u64 d0, .int .u64 d1, .int .u64 d2]] w fun e w' => e = .returned (.bool true) ∧ Own w w' := by
  have q1 : ∀ w : World, (binOp .neq 23 (.agg #[.int .u64 d0, .int .u64 d1, .int .u64 d2]) (.agg #[.int .u64 0, .int .u64 0, .int .u64 0])).run Trym.prog w = .ok (.bool true) w := fun w => by rw [neq_arr, hz]; rfl
  have q2 : ∀ w : World, (Op.equalIn 10000 23 (.agg #[.int .u64 d0, .int .u64 d1, .int .u64 d2]) (.agg #[.int .u64 0, .int .u64 0, .int .u64 0])).run Trym.prog w = .ok false w := fun w => by rw [arr_eq, hz]
  clear hz
  go_enter Trym.func4, Trym.ntmps4
  go_wp2_with fail
  refine (add_is f0 f1 f2 d0 d1 d2 hf0 hf1 hf2 hd0 hd1 hd2 s0 s1 s2 _ HS.e0 HS.e1 HS.e2 HS.e3 _).mono ?_
  rintro e w1 ⟨rfl, o1⟩
  have c1 := o1.cell
  have z1 := o1.size
  simp only [World.size_alloc] at c1 z1
  have n0 : w.heap.size < w1.heap.size := by omega
  have n1 : w.heap.size + 1 < w1.heap.size := by omega
  have n2 : w.heap.size + 1 + 1 < w1.heap.size := by omega
  go_wp2_with fail
  refine (add_is g0 g1 g2 d0 d1 d2 hg0 hg1 hg2 hd0 hd1 hd2 t0 t1 t2 _ HT.e0 HT.e1 HT.e2 HT.e3 _).mono ?_
  rintro e w2 ⟨rfl, o2⟩
  have c2 : ∀ b o, b < w1.heap.size + 1 → w2.cell? ⟨b, o, none⟩ = (w1.alloc (.cells #[.int .u64 s0, .int .u64 s1, .int .u64 s2] 23)).cell? ⟨b, o, none⟩ := fun b o hb => o2.cell b o (by simpa using hb)
  have z2 : w1.heap.size + 1 ≤ w2.heap.size := by have := o2.size; simpa using this
  have m0 : w.heap.size < w2.heap.size := by omega
  have m1 : w.heap.size + 1 < w2.heap.size := by omega
  have m2 : w.heap.size + 1 + 1 < w2.heap.size := by omega
  have m3 : w1.heap.size < w2.heap.size := by omega
  go_wp2_with fail
  refine (zzabove_is s0 s1 s2 f0 f1 f2 _ (unhide A1) _).mono ?_
  rintro e w3 ⟨rfl, o3⟩
  have y3 := o3.size
  simp only [World.size_alloc] at y3
  have c3 : ∀ b o, b < w2.heap.size + 1 → w3.cell? ⟨b, o, none⟩ = (w2.alloc (.cells #[.int .u64 t0, .int .u64 t1, .int .u64 t2] 23)).cell? ⟨b, o, none⟩ := fun b o hb => o3.cell b o (by simpa using hb)
  go_wp2_with fail
  refine (zzabove_is f0 f1 f2 s0 s1 s2 _ (unhide A2) _).mono ?_
  rintro e w4 ⟨rfl, o4⟩
  have c4 : ∀ b o, b < w2.heap.size + 1 → w4.cell? ⟨b, o, none⟩ = w3.cell? ⟨b, o, none⟩ := fun b o hb => o4.cell b o (by omega)
  have ow : Own w w4 := (((((((((Own.refl w).alloc _ _).alloc _ _).alloc _ _).trans o1).alloc _ _).trans o2).alloc _ _).trans o3).trans o4
  go_wp2
  go_quiet (fail)
  go_wp2
  go_ret
  refine ⟨rfl, ow.trans ?_⟩
  repeat (first | (with_reducible exact Own.refl _) | (with_reducible apply Own.drew) | (with_reducible apply Own.drewN))

set_option maxRecDepth 100000 in
set_option maxHeartbeats 2000000 in
theorem w_100 (f0 f1 f2 g0 g1 g2 d0 d1 d2 : Int) (hf0 : Word f0) (hf1 : Word f1) (hf2 : Word f2) (hg0 : Word g0) (hg1 : Word g1) (hg2 : Word g2) (hd0 : Word d0) (hd1 : Word d1) (hd2 : Word d2)
    (s0 s1 s2 t0 t1 t2 : Int) (HS : Sum f0 f1 f2 d0 d1 d2 s0 s1 s2 true) (HT : Sum g0 g1 g2 d0 d1 d2 t0 t1 t2 false)
    (hz : decide (d0 = 0 ∧ d1 = 0 ∧ d2 = 0) = true) (A1 : Hid (abv s0 s1 s2 f0 f1 f2 = false)) (A2 : Hid (abv f0 f1 f2 s0 s1 s2 = true)) (w : World) :
    Calls Trym.prog 4 #[.agg #[.int .u64 f0, .int .u64 f1, .int .u64 f2], .agg #[.int .u64 g0, .int .u64 g1, .int .u64 g2], .agg #[.int .u64 d0, .int .u64 d1, .int .u64 d2]] w fun e w' => e = .returned (.bool true) ∧ Own w w' := by
  have q1 : ∀ w : World, (binOp .neq 23 (.agg #[.int .u64 d0, .int .u64 d1, .int .u64 d2]) (.agg #[.int .u64 0, .int .u64 0, .int .u64 0])).run Trym.prog w = .ok (.bool false) w := fun w => by rw [neq_arr, hz]; rfl
  have q2 : ∀ w : World, (Op.equalIn 10000 23 (.agg #[.int .u64 d0, .int .u64 d1, .int .u64 d2]) (.agg #[.int .u64 0, .int .u64 0, .int .u64 0])).run Trym.prog w = .ok true w := fun w => by rw [arr_eq, hz]
  clear hz
  go_enter Trym.func4, Trym.ntmps4
  go_wp2_with fail
  refine (add_is f0 f1 f2 d0 d1 d2 hf0 hf1 hf2 hd0 hd1 hd2 s0 s1 s2 _ HS.e0 HS.e1 HS.e2 HS.e3 _).mono ?_
  rintro e w1 ⟨rfl, o1⟩
  have c1 := o1.cell
  have z1 := o1.size
  simp only [World.size_alloc] at c1 z1
  have n0 : w.heap.size < w1.heap.size := by omega
  have n1 : w.heap.size + 1 < w1.heap.size := by omega
  have n2 : w.heap.size + 1 + 1 < w1.heap.size := by omega
  go_wp2_with fail
  refine (add_is g0 g1 g2 d0 d1 d2 hg0 hg1 hg2 hd0 hd1 hd2 t0 t1 t2 _ HT.e0 HT.e1 HT.e2 HT.e3 _).mono ?_
  rintro e w2 ⟨rfl, o2⟩
  have c2 : ∀ b o, b < w1.heap.size + 1 → w2.cell? ⟨b, o, none⟩ = (w1.alloc (.cells #[.int .u64 s0, .int .u64 s1, .int .u64 s2] 23)).cell? ⟨b, o, none⟩ := fun b o hb => o2.cell b o (by simpa using hb)
  have z2 : w1.heap.size + 1 ≤ w2.heap.size := by have := o2.size; simpa using this
  have m0 : w.heap.size < w2.heap.size := by omega
  have m1 : w.heap.size + 1 < w2.heap.size := by omega
  have m2 : w.heap.size + 1 + 1 < w2.heap.size := by omega
  have m3 : w1.heap.size < w2.heap.size := by omega
  go_wp2_with fail
  refine (zzabove_is s0 s1 s2 f0 f1 f2 _ (unhide A1) _).mono ?_
  rintro e w3 ⟨rfl, o3⟩
  have y3 := o3.size
  simp only [World.size_alloc] at y3
  have c3 : ∀ b o, b < w2.heap.size + 1 → w3.cell? ⟨b, o, none⟩ = (w2.alloc (.cells #[.int .u64 t0, .int .u64 t1, .int .u64 t2] 23)).cell? ⟨b, o, none⟩ := fun b o hb => o3.cell b o (by simpa using hb)
  go_wp2_with fail
  refine (zzabove_is f0 f1 f2 s0 s1 s2 _ (unhide A2) _).mono ?_
  rintro e w4 ⟨rfl, o4⟩
  have c4 : ∀ b o, b < w2.heap.size + 1 → w4.cell? ⟨b, o, none⟩ = w3.cell? ⟨b, o, none⟩ := fun b o hb => o4.cell b o (by omega)
  have ow : Own w w4 := (((((((((Own.refl w).alloc _ _).alloc _ _).alloc _ _).trans o1).alloc _ _).trans o2).alloc _ _).trans o3).trans o4
  go_wp2
  go_quiet (fail)
  go_wp2
  go_ret
  refine ⟨rfl, ow.trans ?_⟩
  repeat (first | (with_reducible exact Own.refl _) | (with_reducible apply Own.drew) | (with_reducible apply Own.drewN))

set_option maxRecDepth 100000 in
set_option maxHeartbeats 2000000 in
theorem w_101 (f0 f1 f2 g0 g1 g2 d0 d1 d2 : Int) (hf0 : Word f0) (hf1 : Word f1) (hf2 : Word f2) (hg0 : Word g0) (hg1 : Word g1) (hg2 : Word g2) (hd0 : Word d0) (hd1 : Word d1) (hd2 : Word d2)
    (s0 s1 s2 t0 t1 t2 : Int) (HS : Sum f0 f1 f2 d0 d1 d2 s0 s1 s2 true) (HT : Sum g0 g1 g2 d0 d1 d2 t0 t1 t2 false)
    (hz : decide (d0 = 0 ∧ d1 = 0 ∧ d2 = 0) = false) (A1 : Hid (abv s0 s1 s2 f0 f1 f2 = false)) (A2 : Hid (abv f0 f1 f2 s0 s1 s2 = true)) (w : World) :
    Calls Trym.prog 4 #[.agg #[.int .u64 f0, .int .u64 f1, .int .u64 f2], .agg #[.int .u64 g0, .int .u64 g1, .int .u64 g2], .agg #[.int .u64 d0, .int .u64 d1, .int .u64 d2]] w fun e w' => e = .returned (.bool true) ∧ Own w w' := by
  have q1 : ∀ w : World, (binOp .neq 23 (.agg #[.int .u64 d0, .int .u64 d1, .int .u64 d2]) (.agg #[.int .u64 0, .int .u64 0, .int .u64 0])).run Trym.prog w = .ok (.bool true) w := fun w => by rw [neq_arr, hz]; rfl
  have q2 : ∀ w : World, (Op.equalIn 10000 23 (.agg #[.int .u64 d0, .int .u64 d1, .int .u64 d2]) (.agg #[.int .u64 0, .int .u64 0, .int .u64 0])).run Trym.prog w = .ok false w := fun w => by rw [arr_eq, hz]
  clear hz
  go_enter Trym.func4, Trym.ntmps4
  go_wp2_with fail
  refine (add_is f0 f1 f2 d0 d1 d2 hf0 hf1 hf2 hd0 hd1 hd2 s0 s1 s2 _ HS.e0 HS.e1 HS.e2 HS.e3 _).mono ?_
  rintro e w1 ⟨rfl, o1⟩
  have c1 := o1.cell
  have z1 := o1.size
  simp only [World.size_alloc] at c1 z1
  have n0 : w.heap.size < w1.heap.size := by omega
  have n1 : w.heap.size + 1 < w1.heap.size := by omega
  have n2 : w.heap.size + 1 + 1 < w1.heap.size := by omega
  go_wp2_with fail
  refine (add_is g0 g1 g2 d0 d1 d2 hg0 hg1 hg2 hd0 hd1 hd2 t0 t1 t2 _ HT.e0 HT.e1 HT.e2 HT.e3 _).mono ?_
  rintro e w2 ⟨rfl, o2⟩
  have c2 : ∀ b o, b < w1.heap.size + 1 → w2.cell? ⟨b, o, none⟩ = (w1.alloc (.cells #[.int .u64 s0, .int .u64 s1, .int .u64 s2] 23)).cell? ⟨b, o, none⟩ := fun b o hb => o2.cell b o (by simpa using hb)
  have z2 : w1.heap.size + 1 ≤ w2.heap.size := by have := o2.size; simpa using this
  have m0 : w.heap.size < w2.heap.size := by omega
  have m1 : w.heap.size + 1 < w2.heap.size := by omega
  have m2 : w.heap.size + 1 + 1 < w2.heap.size := by omega
  have m3 : w1.heap.size < w2.heap.size := by omega
  go_wp2_with fail
  refine (zzabove_is s0 s1 s2 f0 f1 f2 _ (unhide A1) _).mono ?_
  rintro e w3 ⟨rfl, o3⟩
  have y3 := o3.size
  simp only [World.size_alloc] at y3
  have c3 : ∀ b o, b < w2.heap.size + 1 → w3.cell? ⟨b, o, none⟩ = (w2.alloc (.cells #[.int .u64 t0, .int .u64 t1, .int .u64 t2] 23)).cell? ⟨b, o, none⟩ := fun b o hb => o3.cell b o (by simpa using hb)
  go_wp2_with fail
  refine (zzabove_is f0 f1 f2 s0 s1 s2 _ (unhide A2) _).mono ?_
  rintro e w4 ⟨rfl, o4⟩
  have c4 : ∀ b o, b < w2.heap.size + 1 → w4.cell? ⟨b, o, none⟩ = w3.cell? ⟨b, o, none⟩ := fun b o hb => o4.cell b o (by omega)
  have ow : Own w w4 := (((((((((Own.refl w).alloc _ _).alloc _ _).alloc _ _).trans o1).alloc _ _).trans o2).alloc _ _).trans o3).trans o4
  go_wp2
  go_quiet (fail)
  go_wp2
  go_ret
  refine ⟨rfl, ow.trans ?_⟩
  repeat (first | (with_reducible exact Own.refl _) | (with_reducible apply Own.drew) | (with_reducible apply Own.drewN))

set_option maxRecDepth 100000 in
set_option maxHeartbeats 2000000 in
theorem w_110 (f0 f1 f2 g0 g1 g2 d0 d1 d2 : Int) (hf0 : Word f0) (hf1 : Word f1) (hf2 : Word f2) (hg0 : Word g0) (hg1 : Word g1) (hg2 : Word g2) (hd0 : Word d0) (hd1 : Word d1) (hd2 : Word d2)
    (s0 s1 s2 t0 t1 t2 : Int) (HS : Sum f0 f1 f2 d0 d1 d2 s0 s1 s2 true) (HT : Sum g0 g1 g2 d0 d1 d2 t0 t1 t2 true)
    (hz : decide (d0 = 0 ∧ d1 = 0 ∧ d2 = 0) = true) (A1 : Hid (abv s0 s1 s2 f0 f1 f2 = false)) (A2 : Hid (abv f0 f1 f2 s0 s1 s2 = true)) (w : World) :
    Calls Trym.prog 4 #[.agg #[.int .u64 f0, .int .u64 f1, .int .u64 f2], .agg #[.int .u64 g0, .int .u64 g1, .int .u64 g2], .agg #[.int .u64 d0, .int .u64 d1, .int .u64 d2]] w fun e w' => e = .returned (.bool true) ∧ Own w w' := by
  have q1 : ∀ w : World, (binOp .neq 23 (.agg #[.int .u64 d0, .int .u64 d1, .int .u64 d2]) (.agg #[.int .u64 0, .int .u64 0, .int .u64 0])).run Trym.prog w = .ok (.bool false) w := fun w => by rw [neq_arr, hz]; rfl
  have q2 : ∀ w : World, (Op.equalIn 10000 23 (.agg #[.int .u64 d0, .int .u64 d1, .int .u64 d2]) (.agg #[.int .u64 0, .int .u64 0, .int .u64 0])).run Trym.prog w = .ok true w := fun w => by rw [arr_eq, hz]
  clear hz
  go_enter Trym.func4, Trym.ntmps4
  go_wp2_with fail
  refine (add_is f0 f1 f2 d0 d1 d2 hf0 hf1 hf2 hd0 hd1 hd2 s0 s1 s2 _ HS.e0 HS.e1 HS.e2 HS.e3 _).mono ?_
  rintro e w1 ⟨rfl, o1⟩
  have c1 := o1.cell
  have z1 := o1.size
  simp only [World.size_alloc] at c1 z1
  have n0 : w.heap.size < w1.heap.size := by omega
  have n1 : w.heap.size + 1 < w1.heap.size := by omega
  have n2 : w.heap.size + 1 + 1 < w1.heap.size := by omega
  go_wp2_with fail
  refine (add_is g0 g1 g2 d0 d1 d2 hg0 hg1 hg2 hd0 hd1 hd2 t0 t1 t2 _ HT.e0 HT.e1 HT.e2 HT.e3 _).mono ?_
  rintro e w2 ⟨rfl, o2⟩
  have c2 : ∀ b o, b < w1.heap.size + 1 → w2.cell? ⟨b, o, none⟩ = (w1.alloc (.cells #[.int .u64 s0, .int .u64 s1, .int .u64 s2] 23)).cell? ⟨b, o, none⟩ := fun b o hb => o2.cell b o (by simpa using hb)
  have z2 : w1.heap.size + 1 ≤ w2.heap.size := by have := o2.size; simpa using this
  have m0 : w.heap.size < w2.heap.size := by omega
  have m1 : w.heap.size + 1 < w2.heap.size := by omega
  have m2 : w.heap.size + 1 + 1 < w2.heap.size := by omega
  have m3 : w1.heap.size < w2.heap.size := by omega
  go_wp2_with fail
  refine (zzabove_is s0 s1 s2 f0 f1 f2 _ (unhide A1) _).mono ?_
  rintro e w3 ⟨rfl, o3⟩
  have y3 := o3.size
  simp only [World.size_alloc] at y3
  have c3 : ∀ b o, b < w2.heap.size + 1 → w3.cell? ⟨b, o, none⟩ = (w2.alloc (.cells #[.int .u64 t0, .int .u64 t1, .int .u64 t2] 23)).cell? ⟨b, o, none⟩ := fun b o hb => o3.cell b o (by simpa using hb)
  go_wp2_with fail
  refine (zzabove_is f0 f1 f2 s0 s1 s2 _ (unhide A2) _).mono ?_
  rintro e w4 ⟨rfl, o4⟩
  have c4 : ∀ b o, b < w2.heap.size + 1 → w4.cell? ⟨b, o, none⟩ = w3.cell? ⟨b, o, none⟩ := fun b o hb => o4.cell b o (by omega)
  have ow : Own w w4 := (((((((((Own.refl w).alloc _ _).alloc _ _).alloc _ _).trans o1).alloc _ _).trans o2).alloc _ _).trans o3).trans o4
  go_wp2
  go_quiet (fail)
  go_wp2
  go_ret
  refine ⟨rfl, ow.trans ?_⟩
  repeat (first | (with_reducible exact Own.refl _) | (with_reducible apply Own.drew) | (with_reducible apply Own.drewN))

set_option maxRecDepth 100000 in
set_option maxHeartbeats 2000000 in
theorem w_111 (f0 f1 f2 g0 g1 g2 d0 d1 d2 : Int) (hf0 : Word f0) (hf1 : Word f1) (hf2 : Word f2) (hg0 : Word g0) (hg1 : Word g1) (hg2 : Word g2) (hd0 : Word d0) (hd1 : Word d1) (hd2 : Word d2)
    (s0 s1 s2 t0 t1 t2 : Int) (HS : Sum f0 f1 f2 d0 d1 d2 s0 s1 s2 true) (HT : Sum g0 g1 g2 d0 d1 d2 t0 t1 t2 true)
    (hz : decide (d0 = 0 ∧ d1 = 0 ∧ d2 = 0) = false) (A1 : Hid (abv s0 s1 s2 f0 f1 f2 = false)) (A2 : Hid (abv f0 f1 f2 s0 s1 s2 = true)) (w : World) :
    Calls Trym.prog 4 #[.agg #[.int .u64 f0, .int .u64 f1, .int .u64 f2], .agg #[.int .u64 g0, .int .u64 g1, .int .u64 g2], .agg #[.int .u64 d0, .int .u64 d1, .int .u64 d2]] w fun e w' => e = .returned (.bool true) ∧ Own w w' := by
  have q1 : ∀ w : World, (binOp .neq 23 (.agg #[.int .u64 d0, .int .u64 d1, .int .u64 d2]) (.agg #[.int .u64 0, .int .u64 0, .int .u64 0])).run Trym.prog w = .ok (.bool true) w := fun w => by rw [neq_arr, hz]; rfl
  have q2 : ∀ w : World, (Op.equalIn 10000 23 (.agg #[.int .u64 d0, .int .u64 d1, .int .u64 d2]) (.agg #[.int .u64 0, .int .u64 0, .int .u64 0])).run Trym.prog w = .ok false w := fun w => by rw [arr_eq, hz]
  clear hz
  go_enter Trym.func4, Trym.ntmps4
  go_wp2_with fail
  refine (add_is f0 f1 f2 d0 d1 d2 hf0 hf1 hf2 hd0 hd1 hd2 s0 s1 s2 _ HS.e0 HS.e1 HS.e2 HS.e3 _).mono ?_
  rintro e w1 ⟨rfl, o1⟩
  have c1 := o1.cell
  have z1 := o1.size
  simp only [World.size_alloc] at c1 z1
  have n0 : w.heap.size < w1.heap.size := by omega
  have n1 : w.heap.size + 1 < w1.heap.size := by omega
  have n2 : w.heap.size + 1 + 1 < w1.heap.size := by omega
  go_wp2_with fail
  refine (add_is g0 g1 g2 d0 d1 d2 hg0 hg1 hg2 hd0 hd1 hd2 t0 t1 t2 _ HT.e0 HT.e1 HT.e2 HT.e3 _).mono ?_
  rintro e w2 ⟨rfl, o2⟩
  have c2 : ∀ b o, b < w1.heap.size + 1 → w2.cell? ⟨b, o, none⟩ = (w1.alloc (.cells #[.int .u64 s0, .int .u64 s1, .int .u64 s2] 23)).cell? ⟨b, o, none⟩ := fun b o hb => o2.cell b o (by simpa using hb)
  have z2 : w1.heap.size + 1 ≤ w2.heap.size := by have := o2.size; simpa using this
  have m0 : w.heap.size < w2.heap.size := by omega
  have m1 : w.heap.size + 1 < w2.heap.size := by omega
  have m2 : w.heap.size + 1 + 1 < w2.heap.size := by omega
  have m3 : w1.heap.size < w2.heap.size := by omega
  go_wp2_with fail
  refine (zzabove_is s0 s1 s2 f0 f1 f2 _ (unhide A1) _).mono ?_
  rintro e w3 ⟨rfl, o3⟩
  have y3 := o3.size
  simp only [World.size_alloc] at y3
  have c3 : ∀ b o, b < w2.heap.size + 1 → w3.cell? ⟨b, o, none⟩ = (w2.alloc (.cells #[.int .u64 t0, .int .u64 t1, .int .u64 t2] 23)).cell? ⟨b, o, none⟩ := fun b o hb => o3.cell b o (by simpa using hb)
  go_wp2_with fail
  refine (zzabove_is f0 f1 f2 s0 s1 s2 _ (unhide A2) _).mono ?_
  rintro e w4 ⟨rfl, o4⟩
  have c4 : ∀ b o, b < w2.heap.size + 1 → w4.cell? ⟨b, o, none⟩ = w3.cell? ⟨b, o, none⟩ := fun b o hb => o4.cell b o (by omega)
  have ow : Own w w4 := (((((((((Own.refl w).alloc _ _).alloc _ _).alloc _ _).trans o1).alloc _ _).trans o2).alloc _ _).trans o3).trans o4
  go_wp2
  go_quiet (fail)
  go_wp2
  go_ret
  refine ⟨rfl, ow.trans ?_⟩
  repeat (first | (with_reducible exact Own.refl _) | (with_reducible apply Own.drew) | (with_reducible apply Own.drewN))

theorem walk (f0 f1 f2 g0 g1 g2 d0 d1 d2 : Int) (hf0 : Word f0) (hf1 : Word f1) (hf2 : Word f2) (hg0 : Word g0) (hg1 : Word g1) (hg2 : Word g2) (hd0 : Word d0) (hd1 : Word d1) (hd2 : Word d2) (w : World) :
    Calls Trym.prog 4 #[.agg #[.int .u64 f0, .int .u64 f1, .int .u64 f2], .agg #[.int .u64 g0, .int .u64 g1, .int .u64 g2], .agg #[.int .u64 d0, .int .u64 d1, .int .u64 d2]] w fun e w' => e = .returned (.bool true) ∧ Own w w' := by
  obtain ⟨s0, s1, s2, fw, HS⟩ : ∃ s0 s1 s2 v, Sum f0 f1 f2 d0 d1 d2 s0 s1 s2 v := ⟨_, _, _, _, rfl, rfl, rfl, rfl⟩
  obtain ⟨t0, t1, t2, gw, HT⟩ : ∃ s0 s1 s2 v, Sum g0 g1 g2 d0 d1 d2 s0 s1 s2 v := ⟨_, _, _, _, rfl, rfl, rfl, rfl⟩
  have hs0 : Word s0 := by rw [← HS.e0]; exact word_ad _ _ _
  have hs1 : Word s1 := by rw [← HS.e1]; exact word_ad _ _ _
  have hs2 : Word s2 := by rw [← HS.e2]; exact word_ad _ _ _
  have ht0 : Word t0 := by rw [← HT.e0]; exact word_ad _ _ _
  have ht1 : Word t1 := by rw [← HT.e1]; exact word_ad _ _ _
  have ht2 : Word t2 := by rw [← HT.e2]; exact word_ad _ _ _
  have NS := sum_num hf0 hf1 hf2 hd0 hd1 hd2 HS
  have NT := sum_num hg0 hg1 hg2 hd0 hd1 hd2 HT
  have A1 := abv_num s0 s1 s2 f0 f1 f2 hs0 hs1 hs2 hf0 hf1 hf2
  have A2 := abv_num f0 f1 f2 s0 s1 s2 hf0 hf1 hf2 hs0 hs1 hs2
  have A3 := abv_num s0 s1 s2 t0 t1 t2 hs0 hs1 hs2 ht0 ht1 ht2
  have A4 := abv_num f0 f1 f2 g0 g1 g2 hf0 hf1 hf2 hg0 hg1 hg2
  have Bd := num_bd d0 d1 d2 hd0 hd1 hd2
  have Zd := num_zero d0 d1 d2 hd0 hd1 hd2
  cases hz : decide (d0 = 0 ∧ d1 = 0 ∧ d2 = 0) with
  | true =>
    have z := Zd.1 (of_decide_eq_true hz)
    cases fw <;> cases gw <;> simp only [if_true, Bool.false_eq_true, if_false] at NS NT
    · exact w_000 f0 f1 f2 g0 g1 g2 d0 d1 d2 hf0 hf1 hf2 hg0 hg1 hg2 hd0 hd1 hd2 s0 s1 s2 t0 t1 t2 HS HT hz (hide (A1.trans (decide_eq_false (by omega)))) (hide (A2.trans (decide_eq_false (by omega)))) (decide (num g0 g1 g2 < num f0 f1 f2)) (hide (A3.trans (decide_eq_decide.2 (by omega)))) (hide A4) w
    · exact w_010 f0 f1 f2 g0 g1 g2 d0 d1 d2 hf0 hf1 hf2 hg0 hg1 hg2 hd0 hd1 hd2 s0 s1 s2 t0 t1 t2 HS HT hz (hide (A1.trans (decide_eq_false (by omega)))) (hide (A2.trans (decide_eq_false (by omega)))) w
    · exact w_100 f0 f1 f2 g0 g1 g2 d0 d1 d2 hf0 hf1 hf2 hg0 hg1 hg2 hd0 hd1 hd2 s0 s1 s2 t0 t1 t2 HS HT hz (hide (A1.trans (decide_eq_false (by omega)))) (hide (A2.trans (decide_eq_true (by omega)))) w
    · exact w_110 f0 f1 f2 g0 g1 g2 d0 d1 d2 hf0 hf1 hf2 hg0 hg1 hg2 hd0 hd1 hd2 s0 s1 s2 t0 t1 t2 HS HT hz (hide (A1.trans (decide_eq_false (by omega)))) (hide (A2.trans (decide_eq_true (by omega)))) w
  | false =>
    have z : ¬ num d0 d1 d2 = 0 := fun h => of_decide_eq_false hz (Zd.2 h)
    cases fw <;> cases gw <;> simp only [if_true, Bool.false_eq_true, if_false] at NS NT
    · exact w_001 f0 f1 f2 g0 g1 g2 d0 d1 d2 hf0 hf1 hf2 hg0 hg1 hg2 hd0 hd1 hd2 s0 s1 s2 t0 t1 t2 HS HT hz (hide (A1.trans (decide_eq_true (by omega)))) (hide (A2.trans (decide_eq_false (by omega)))) (decide (num g0 g1 g2 < num f0 f1 f2)) (hide (A3.trans (decide_eq_decide.2 (by omega)))) (hide A4) w
    · exact w_011 f0 f1 f2 g0 g1 g2 d0 d1 d2 hf0 hf1 hf2 hg0 hg1 hg2 hd0 hd1 hd2 s0 s1 s2 t0 t1 t2 HS HT hz (hide (A1.trans (decide_eq_true (by omega)))) (hide (A2.trans (decide_eq_false (by omega)))) w
    · exact w_101 f0 f1 f2 g0 g1 g2 d0 d1 d2 hf0 hf1 hf2 hg0 hg1 hg2 hd0 hd1 hd2 s0 s1 s2 t0 t1 t2 HS HT hz (hide (A1.trans (decide_eq_false (by omega)))) (hide (A2.trans (decide_eq_true (by omega)))) w
    · exact w_111 f0 f1 f2 g0 g1 g2 d0 d1 d2 hf0 hf1 hf2 hg0 hg1 hg2 hd0 hd1 hd2 s0 s1 s2 t0 t1 t2 HS HT hz (hide (A1.trans (decide_eq_false (by omega)))) (hide (A2.trans (decide_eq_true (by omega)))) w
end fnAboveAfterAdding
end Go.Proofs.Qxb6609010aMods
