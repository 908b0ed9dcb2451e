/-
  The proof of 'Rows.FnAboveTrichotomySaid': the kit's frame round the walk (TriWalk).
-/
import Derived.Test.Qxb6609010aModsTriWalk
import Derived.Test.Qxb6609010aModsArrays
namespace Go.Proofs.Qxb6609010aMods.fnAboveTrichotomy
open Go.ChangeShapes Go.WideShapes Go.ChangeAt Go.RowKit

set_option maxRecDepth 100000 in
theorem lifted (os : Os) (started : os.Started) (H : Type) (enc : TypeId × Value → H) :
    ReturnsInHanded {} Trym.checked os 3 .any (Rows.fnAboveTrichotomySpec.pre6 enc Trym.prog Trym.f3 Rows.fnAboveTrichotomyRow.domain false) (Rows.fnAboveTrichotomySpec.post enc Trym.prog Trym.f3 false true false false) := by
  refine returnsInHanded_of_change (C := Trym.checked) own started (by kernel_rfl) Trym.func3
    (ChangeSpec.witness6 (enc := enc) (C := Trym.checked) false ⟨#[], #[.agg #[.int .u64 0, .int .u64 0, .int .u64 0], .agg #[.int .u64 0, .int .u64 0, .int .u64 0]], []⟩ 8 (by kernel_rfl) (by kernel_rfl) (by kernel_rfl) (by kernel_rfl)) ?_
  intro W base args ds gs before hval0 hW hcnd _
  have hval : ∀ (j : Nat) t v, Trym.f3.params[j]? = some t → args[j]? = some v → Value.okWide Trym.prog W .any base t v := hval0
  have hW' := hW
  obtain ⟨p, q, hA0, hV, rfl, hfz, hnd⟩ := hW
  have hA : DataW.TrodAll enc Trym.prog W 0 (fun _ => true) true Trym.f3.params.toList args.toList ds p := hA0
  rw [Trym.params3] at hA hval
  obtain ⟨v0, vs0, d0, ds0, p0, q0, hargs, rfl, rfl, h0, r0⟩ := trodAll_cons hA
  obtain ⟨v1, vs1, d1, ds1, p1, q1, rfl, rfl, rfl, h1, r1⟩ := trodAll_cons r0
  obtain ⟨rfl, rfl, rfl⟩ := trodAll_nil r1
  obtain rfl : args = #[v0, v1] := by cases args; simp_all
  obtain ⟨rfl, rfl⟩ := trodVars_none hV
  obtain ⟨x0, x1, x2, rfl, rfl, rfl, wx0, wx1, wx2⟩ := open3 (hval 0 23 v0 rfl rfl) h0
  obtain ⟨y0, y1, y2, rfl, rfl, rfl, wy0, wy1, wy2⟩ := open3 (hval 1 23 v1 rfl rfl) h1
  clear hA0 hval0
  simp only [List.append_nil] at hW'
  refine (walk x0 x1 x2 y0 y1 y2 (word_of_wf wx0) (word_of_wf wx1) (word_of_wf wx2) (word_of_wf wy0) (word_of_wf wy1) (word_of_wf wy2) W).mono fun e W' ⟨he, ho⟩ => ?_
  subst he
  have hg := ho.grown
  exact ⟨_, rfl, post_of_same (pa := []) (pv := []) hW' (fun _ _ _ => (trodAll_cons_mk (shut_bool Trym.underlying4 _) trodAll_mk0)) (fun sp _ => (trodAll_cons_mk (shut3 wx0 wx1 wx2) (trodAll_cons_mk (shut3 wy0 wy1 wy2) trodAll_mk0))) (fun _ _ => rfl) rfl
    (hg.frame _) hg.2.1 (ok_one (by kernel_rfl) rfl (okWide_bool_mk Trym.underlying4 _))⟩

theorem over : Rows.fnAboveTrichotomyRow.holds Trym.pinned (OpenSpec.ofChange Rows.fnAboveTrichotomySpec) :=
  OpenClaim.holds_of_wide 3 Trym.f3 rfl rfl rfl rfl rfl rfl rfl ⟨rfl, rfl, rfl, rfl, rfl⟩ rfl rfl rfl rfl rfl (by kernel_rfl) Trym.func3 (by kernel_rfl)
    (of_decide_eq_true (by kernel_rfl)) (by unfold Func.isWrapper; first | (rw [if_pos (by decide +kernel)]; kernel_rfl) | (rw [if_neg (by decide +kernel)]; exact ⟨rfl, rfl⟩))
    (fun os started H enc _ => lifted os started H enc)

theorem proved : Rows.FnAboveTrichotomySaid :=
  over
#print axioms proved
end Go.Proofs.Qxb6609010aMods.fnAboveTrichotomy
