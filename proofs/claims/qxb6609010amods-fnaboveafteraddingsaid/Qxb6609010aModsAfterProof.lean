/-
  The proof of 'Rows.FnAboveAfterAddingSaid': the kit's frame round the walk (AfterWalk).
-/
import Derived.Test.Qxb6609010aModsAfterWalk
import Derived.Test.Qxb6609010aModsArrays
namespace Go.Proofs.Qxb6609010aMods.fnAboveAfterAdding
open Go.ChangeShapes Go.WideShapes Go.ChangeAt Go.RowKit

set_option maxRecDepth 100000 in
theorem lifted (os : Os) (started : os.Started) (H : Type) (enc : TypeId × Value → H) :
    ReturnsInHanded {} Trym.checked os 4 .any (Rows.fnAboveAfterAddingSpec.pre6 enc Trym.prog Trym.f4 Rows.fnAboveAfterAddingRow.domain false) (Rows.fnAboveAfterAddingSpec.post enc Trym.prog Trym.f4 false true false false) := by
  refine returnsInHanded_of_change (C := Trym.checked) own started (by kernel_rfl) Trym.func4
    (ChangeSpec.witness6 (enc := enc) (C := Trym.checked) false ⟨#[], #[.agg #[.int .u64 0, .int .u64 0, .int .u64 0], .agg #[.int .u64 0, .int .u64 0, .int .u64 0], .agg #[.int .u64 0, .int .u64 0, .int .u64 0]], []⟩ 8 (by kernel_rfl) (by kernel_rfl) (by kernel_rfl) (by kernel_rfl)) ?_
  intro W base args ds gs before hval0 hW hcnd _
  have hval : ∀ (j : Nat) t v, Trym.f4.params[j]? = some t → args[j]? = some v → Value.okWide Trym.prog W .any base t v := hval0
  have hW' := hW
  obtain ⟨p, q, hA0, hV, rfl, hfz, hnd⟩ := hW
  have hA : DataW.TrodAll enc Trym.prog W 0 (fun _ => true) true Trym.f4.params.toList args.toList ds p := hA0
  rw [Trym.params4] at hA hval
  obtain ⟨v0, vs0, d0, ds0, p0, q0, hargs, rfl, rfl, h0, r0⟩ := trodAll_cons hA
  obtain ⟨v1, vs1, d1, ds1, p1, q1, rfl, rfl, rfl, h1, r1⟩ := trodAll_cons r0
  obtain ⟨v2, vs2, d2, ds2, p2, q2, rfl, rfl, rfl, h2, r2⟩ := trodAll_cons r1
  obtain ⟨rfl, rfl, rfl⟩ := trodAll_nil r2
  obtain rfl : args = #[v0, v1, v2] := by cases args; simp_all
  obtain ⟨rfl, rfl⟩ := trodVars_none hV
  obtain ⟨x0, x1, x2, rfl, rfl, rfl, wx0, wx1, wx2⟩ := open3 (hval 0 23 v0 rfl rfl) h0
  obtain ⟨y0, y1, y2, rfl, rfl, rfl, wy0, wy1, wy2⟩ := open3 (hval 1 23 v1 rfl rfl) h1
  obtain ⟨z0, z1, z2, rfl, rfl, rfl, wz0, wz1, wz2⟩ := open3 (hval 2 23 v2 rfl rfl) h2
  clear hA0 hval0
  simp only [List.append_nil] at hW'
  refine (walk x0 x1 x2 y0 y1 y2 z0 z1 z2 (word_of_wf wx0) (word_of_wf wx1) (word_of_wf wx2) (word_of_wf wy0) (word_of_wf wy1) (word_of_wf wy2) (word_of_wf wz0) (word_of_wf wz1) (word_of_wf wz2) W).mono fun e W' ⟨he, ho⟩ => ?_
  subst he
  have hg := ho.grown
  exact ⟨_, rfl, post_of_same (pa := []) (pv := []) hW' (fun _ _ _ => (trodAll_cons_mk (shut_bool Trym.underlying4 _) trodAll_mk0)) (fun sp _ => (trodAll_cons_mk (shut3 wx0 wx1 wx2) (trodAll_cons_mk (shut3 wy0 wy1 wy2) (trodAll_cons_mk (shut3 wz0 wz1 wz2) trodAll_mk0)))) (fun _ _ => rfl) rfl
    (hg.frame _) hg.2.1 (ok_one (by kernel_rfl) rfl (okWide_bool_mk Trym.underlying4 _))⟩

theorem over : Rows.fnAboveAfterAddingRow.holds Trym.pinned (OpenSpec.ofChange Rows.fnAboveAfterAddingSpec) :=
  OpenClaim.holds_of_wide 4 Trym.f4 rfl rfl rfl rfl rfl rfl rfl ⟨rfl, rfl, rfl, rfl, rfl⟩ rfl rfl rfl rfl rfl (by kernel_rfl) Trym.func4 (by kernel_rfl)
    (of_decide_eq_true (by kernel_rfl)) (by unfold Func.isWrapper; first | (rw [if_pos (by decide +kernel)]; kernel_rfl) | (rw [if_neg (by decide +kernel)]; exact ⟨rfl, rfl⟩))
    (fun os started H enc _ => lifted os started H enc)

theorem proved : Rows.FnAboveAfterAddingSaid :=
  over
#print axioms proved
end Go.Proofs.Qxb6609010aMods.fnAboveAfterAdding
