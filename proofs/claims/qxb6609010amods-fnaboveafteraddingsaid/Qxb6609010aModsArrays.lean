/-
  An argument of the type [3]uint64, opened and shut again.
-/
import Derived.Test.Qxb6609010aModsWords
import Derived.ProofKit
import Derived.OpenShut
import Derived.Laws.IdiomArrays
namespace Go.Proofs.Qxb6609010aMods
open Go.ChangeShapes Go.WideShapes Go.ChangeAt Go.RowKit

theorem own : ownKnob Trym.prog.godebug = none := by kernel_rfl
theorem cells22 : Trym.prog.cellsOf 22 = 1 := by kernel_rfl
theorem cells23 : Trym.prog.cellsOf 23 = 3 := by kernel_rfl
theorem list3 {α : Type} (l : List α) (h : (⟨l⟩ : Array α).size = 3) : ∃ a b c, l = [a, b, c] := by
  match l, h with
  | [a, b, c], _ => exact ⟨a, b, c, rfl⟩
theorem word_of_wf {x : Int} (h : (Lit.int .u64 x).wf = true) : Word x := by
  simp [Lit.wf, IntKind.min, IntKind.max, IntKind.signed, IntKind.bits] at h
  exact ⟨by omega, by omega⟩

theorem open3 {H : Type} {enc : TypeId × Value → H} {W : World} {r : Reach} {base b0 : Nat} {sp : Nat → Bool} {held : Bool} {v : Value} {d : DataW H} {p : List MemPlace}
    (hv : Value.okWide Trym.prog W r b0 23 v) (h : DataW.Trod enc Trym.prog W base sp held 23 v d p) :
    ∃ x0 x1 x2 : Int, v = .agg #[.int .u64 x0, .int .u64 x1, .int .u64 x2] ∧ d = .agg [.lit (.int .u64 x0), .lit (.int .u64 x1), .lit (.int .u64 x2)] ∧ p = [] ∧
      (Lit.int .u64 x0).wf = true ∧ (Lit.int .u64 x1).wf = true ∧ (Lit.int .u64 x2).wf = true := by
  obtain ⟨cs, rfl, hsz, _⟩ : ∃ cs, v = .agg cs ∧ cs.size = Trym.prog.cellsOf 23 ∧ Row.okWide Trym.prog W r b0 23 cs := by
    simpa [Value.okWide, Trym.underlying23] using hv
  rw [cells23] at hsz
  obtain ⟨l⟩ := cs
  obtain ⟨c0, c1, c2, rfl⟩ := list3 l hsz
  obtain ⟨fuel, hf⟩ := h
  obtain ⟨y0, y1, y2, m, hx, hy0, hy1, hy2⟩ := trod_array3 Trym.underlying23 cells22 hf
  obtain ⟨x0, e0, rfl, w0⟩ := DataW.trod_int Trym.underlying22 hy0
  obtain ⟨x1, e1, rfl, w1⟩ := DataW.trod_int Trym.underlying22 hy1
  obtain ⟨x2, e2, rfl, w2⟩ := DataW.trod_int Trym.underlying22 hy2
  simp at e0 e1 e2
  subst e0 e1 e2
  simp only [Prod.mk.injEq] at hx
  obtain ⟨rfl, rfl⟩ := hx
  exact ⟨x0, x1, x2, rfl, rfl, rfl, w0, w1, w2⟩

theorem shut3 {H : Type} {enc : TypeId × Value → H} {W : World} {base : Nat} {sp : Nat → Bool} {held : Bool} {x0 x1 x2 : Int}
    (w0 : (Lit.int .u64 x0).wf = true) (w1 : (Lit.int .u64 x1).wf = true) (w2 : (Lit.int .u64 x2).wf = true) :
    DataW.Trod enc Trym.prog W base sp held 23 (.agg #[.int .u64 x0, .int .u64 x1, .int .u64 x2]) (.agg [.lit (.int .u64 x0), .lit (.int .u64 x1), .lit (.int .u64 x2)]) [] :=
  ⟨2, by simp [DataW.trod, Value.cells, Trym.underlying23, Trym.underlying22, cells23, cells22, w0, w1, w2, show List.range 3 = [0, 1, 2] from rfl]⟩
end Go.Proofs.Qxb6609010aMods
