/-
  'Own w w'': nothing of w's memory has turned, no mark of a cell has turned; there may be new blocks and draws.
-/
import Derived.Test.Qxb6609010aModsRows
import Derived.WalkKit
import Derived.WalkSpells
import Derived.BigQuiet
import Derived.Deep.QuietTactic
import Derived.Deep.RegionWith
import Derived.RowKit3
namespace Go.Proofs.Qxb6609010aMods
open Go.RowKit

theorem hide {p : Prop} (h : p) : Hid p := h
theorem unhide {p : Prop} (h : Hid p) : p := h
theorem ret_bool {a b : Bool} (h : a = b) : Ending.returned (.bool a) = .returned (.bool b) := by rw [h]

def Own (w w' : World) : Prop := Below w.heap.size w w' ∧ ∀ a, w'.frozen? a = w.frozen? a
theorem Own.refl (w : World) : Own w w := ⟨Below.refl _ _, fun _ => rfl⟩
theorem Own.trans {a b c : World} (h : Own a b) (k : Own b c) : Own a c :=
  ⟨h.1.trans (k.1.mono h.1.size), fun x => (k.2 x).trans (h.2 x)⟩
theorem Own.alloc {w w' : World} (h : Own w w') (c : Array Value) (t : TypeId) : Own w (w'.alloc (.cells c t)) :=
  ⟨h.1.alloc h.1.size _, fun x => (frozen?_alloc_cells _ _ _ x).trans (h.2 x)⟩
theorem Own.drewN {w w' : World} (h : Own w w') (n : Nat) : Own w (w'.drewN n) :=
  ⟨h.1.trans ⟨rfl, rfl, rfl, Nat.le_refl _, fun _ _ => rfl⟩, h.2⟩
theorem Own.drew {w w' : World} (h : Own w w') : Own w w'.drew := ⟨h.1.drew, h.2⟩
theorem Own.setCell {w w' : World} (h : Own w w') {a : Addr} (ha : w.heap.size ≤ a.block) (v : Value) : Own w (w'.setCell a v) :=
  ⟨h.1.setCell ha v, fun x => (World.frozen?_setCell _ _ _ _).trans (h.2 x)⟩
theorem Own.grown {w w' : World} (h : Own w w') : Grown w w' := ⟨h.1.frame _, h.2, h.1.size⟩
theorem Own.cell {W w1 : World} (h : Own W w1) : ∀ b o, b < W.heap.size → w1.cell? ⟨b, o, none⟩ = W.cell? ⟨b, o, none⟩ :=
  fun b o hb => h.1.cell (p := ⟨b, o, none⟩) hb
theorem Own.fro {W w1 : World} (h : Own W w1) : ∀ b o, w1.frozen? ⟨b, o, none⟩ = W.frozen? ⟨b, o, none⟩ :=
  fun _ _ => h.2 _
theorem Own.size {W w1 : World} (h : Own W w1) : W.heap.size ≤ w1.heap.size := h.1.size
end Go.Proofs.Qxb6609010aMods
