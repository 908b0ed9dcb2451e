/-
  The walk of zzAdd192: the sum modulo 2^192, word by word, and the carry out.
-/
import Derived.Test.Qxb6609010aModsTriWalk
namespace Go.Proofs.Qxb6609010aMods
open Go.RowKit
/-- The word and the carry out of x + y + c. -/
def ad (x y c : Int) : Int := (x + y + c) % 18446744073709551616
def ca (x y c : Int) : Int := (x + y + c) / 18446744073709551616
theorem ca_bd (x y c : Int) (hx : Word x) (hy : Word y) (h0 : 0 ≤ c) (h1 : c ≤ 1) : 0 ≤ ca x y c ∧ ca x y c ≤ 1 := by
  obtain ⟨_, _⟩ := hx; obtain ⟨_, _⟩ := hy; unfold ca; omega
theorem ad_step (x y c : Int) : IntKind.u64.wrap (IntKind.u64.wrap (x + y) + c) = ad x y c := by
  rw [IntKind.wrap_u64, IntKind.wrap_u64]; unfold ad; omega
theorem or_11 : bits .or .u64 1 1 = 1 := u64_or_nat 1 1 (by decide) (by decide)
theorem or_10 : bits .or .u64 1 0 = 1 := u64_or_nat 1 0 (by decide) (by decide)
theorem or_01 : bits .or .u64 0 1 = 1 := u64_or_nat 0 1 (by decide) (by decide)
theorem or_00 : bits .or .u64 0 0 = 0 := u64_or_nat 0 0 (by decide) (by decide)
theorem ca_11 (x y c : Int) (hx : Word x) (hy : Word y) (h0 : 0 ≤ c) (h1 : c ≤ 1) (a : IntKind.u64.wrap (x + y) < x) (b : IntKind.u64.wrap (IntKind.u64.wrap (x + y) + c) < IntKind.u64.wrap (x + y)) : bits .or .u64 1 1 = ca x y c := by
  rw [or_11]; rw [IntKind.wrap_u64] at a; rw [IntKind.wrap_u64, IntKind.wrap_u64] at b
  obtain ⟨_, _⟩ := hx; obtain ⟨_, _⟩ := hy; unfold ca; omega
theorem ca_10 (x y c : Int) (hx : Word x) (hy : Word y) (h0 : 0 ≤ c) (h1 : c ≤ 1) (a : IntKind.u64.wrap (x + y) < x) (_b : IntKind.u64.wrap (x + y) ≤ IntKind.u64.wrap (IntKind.u64.wrap (x + y) + c)) : bits .or .u64 1 0 = ca x y c := by
  rw [or_10]; rw [IntKind.wrap_u64] at a
  obtain ⟨_, _⟩ := hx; obtain ⟨_, _⟩ := hy; unfold ca; omega
theorem ca_01 (x y c : Int) (hx : Word x) (hy : Word y) (h0 : 0 ≤ c) (h1 : c ≤ 1) (a : x ≤ IntKind.u64.wrap (x + y)) (b : IntKind.u64.wrap (IntKind.u64.wrap (x + y) + c) < IntKind.u64.wrap (x + y)) : bits .or .u64 0 1 = ca x y c := by
  rw [or_01]; rw [IntKind.wrap_u64] at a; rw [IntKind.wrap_u64, IntKind.wrap_u64] at b
  obtain ⟨_, _⟩ := hx; obtain ⟨_, _⟩ := hy; unfold ca; omega
theorem ca_00 (x y c : Int) (hx : Word x) (hy : Word y) (h0 : 0 ≤ c) (h1 : c ≤ 1) (a : x ≤ IntKind.u64.wrap (x + y)) (b : IntKind.u64.wrap (x + y) ≤ IntKind.u64.wrap (IntKind.u64.wrap (x + y) + c)) : bits .or .u64 0 0 = ca x y c := by
  rw [or_00]; rw [IntKind.wrap_u64] at a; rw [IntKind.wrap_u64, IntKind.wrap_u64] at b
  obtain ⟨_, _⟩ := hx; obtain ⟨_, _⟩ := hy; unfold ca; omega

theorem set_new (W : World) (c : Array Value) (t : TypeId) (n b o : Nat) (hb : b = W.heap.size) (v : Value) :
    ((W.alloc (.cells c t)).drewN n).setCell ⟨b, o, none⟩ v = (W.alloc (.cells (c.setIfInBounds o v) t)).drewN n := by
  show ((W.alloc (.cells c t)).setCell ⟨b, o, none⟩ v).drewN n = _
  rw [World.setCell_alloc_at c t b o v hb]

/-- The carry behind k rounds. -/
def ck (x0 x1 x2 y0 y1 y2 : Int) : Nat → Int
  | 0 => 0
  | 1 => ca x0 y0 0
  | 2 => ca x1 y1 (ca x0 y0 0)
  | _ => ca x2 y2 (ca x1 y1 (ca x0 y0 0))

theorem ret_add {a0 a1 a2 b0 b1 b2 : Int} {p q : Bool} (h0 : a0 = b0) (h1 : a1 = b1) (h2 : a2 = b2) (h3 : p = q) :
    Ending.returned (.tuple #[.agg #[.int .u64 a0, .int .u64 a1, .int .u64 a2], .bool p]) = .returned (.tuple #[.agg #[.int .u64 b0, .int .u64 b1, .int .u64 b2], .bool q]) := by rw [h0, h1, h2, h3]

set_option maxRecDepth 100000 in
set_option maxHeartbeats 1000000 in
theorem add_any (x0 x1 x2 y0 y1 y2 : Int) (h0 : Word x0) (h1 : Word x1) (h2 : Word x2) (k0 : Word y0) (k1 : Word y1) (k2 : Word y2) (w : World) :
    Calls Trym.prog 7 #[.agg #[.int .u64 x0, .int .u64 x1, .int .u64 x2], .agg #[.int .u64 y0, .int .u64 y1, .int .u64 y2]] w fun e w' => e = .returned (.tuple #[.agg #[.int .u64 (ad x0 y0 0), .int .u64 (ad x1 y1 (ca x0 y0 0)), .int .u64 (ad x2 y2 (ca x1 y1 (ca x0 y0 0)))], .bool (ca x2 y2 (ca x1 y1 (ca x0 y0 0)) == 1)]) ∧ Own w w' := by
  go_enter Trym.func7, Trym.ntmps7
  go_wp2
  go_loopw [7, 8] (fun t i wr => ∃ (k : Nat) (c : Int) (a0 a1 a2 : Int) (n : Nat), k ≤ 3 ∧ i = .int .i64 k ∧ t = .int .u64 c ∧ 0 ≤ c ∧ c ≤ 1 ∧
      Hid (c = ck x0 x1 x2 y0 y1 y2 k ∧ (1 ≤ k → a0 = ad x0 y0 0) ∧ (2 ≤ k → a1 = ad x1 y1 (ca x0 y0 0)) ∧ (3 ≤ k → a2 = ad x2 y2 (ca x1 y1 (ca x0 y0 0)))) ∧
      wr = ((((w.alloc (.cells #[.int .u64 x0, .int .u64 x1, .int .u64 x2] 23)).alloc (.cells #[.int .u64 y0, .int .u64 y1, .int .u64 y2] 23)).alloc (.cells #[.int .u64 0, .int .u64 0, .int .u64 0] 23)).alloc (.cells #[.int .u64 a0, .int .u64 a1, .int .u64 a2] 23)).drewN n) (fun _ i _ => 3 - (intOf i).toNat)
  case atStart => exact ⟨0, 0, 0, 0, 0, 0, by omega, rfl, rfl, by omega, by omega, hide ⟨rfl, fun h => absurd h (by omega), fun h => absurd h (by omega), fun h => absurd h (by omega)⟩, rfl⟩
  case round =>
    obtain ⟨k, c, a0, a1, a2, n, hk, rfl, rfl, hc0, hc1, hc, rfl⟩ := hrel
    have hk4 : k = 0 ∨ k = 1 ∨ k = 2 ∨ k = 3 := by omega
    rcases hk4 with rfl | rfl | rfl | rfl
    · have hb := ca_bd x0 y0 c h0 k0 hc0 hc1
      have HC := hide hc
      go_wp2
      go_quiet (fail)
      go_wp2
      · exact ⟨⟨1, ca x0 y0 c, ad x0 y0 c, a1, a2, _, by omega, rfl, congrArg (Value.int .u64) (ca_11 x0 y0 c h0 k0 hc0 hc1 ‹_› ‹_›), hb.1, hb.2, hide ⟨(unhide hc).1 ▸ rfl, fun _ => by rw [(unhide hc).1]; rfl, fun h => absurd h (by omega), fun h => absurd h (by omega)⟩, by rw [ad_step]; exact set_new _ _ _ _ _ 0 (by simp) _⟩, by simp [intOf]⟩
      · exact ⟨⟨1, ca x0 y0 c, ad x0 y0 c, a1, a2, _, by omega, rfl, congrArg (Value.int .u64) (ca_10 x0 y0 c h0 k0 hc0 hc1 ‹_› ‹_›), hb.1, hb.2, hide ⟨(unhide hc).1 ▸ rfl, fun _ => by rw [(unhide hc).1]; rfl, fun h => absurd h (by omega), fun h => absurd h (by omega)⟩, by rw [ad_step]; exact set_new _ _ _ _ _ 0 (by simp) _⟩, by simp [intOf]⟩
      · exact ⟨⟨1, ca x0 y0 c, ad x0 y0 c, a1, a2, _, by omega, rfl, congrArg (Value.int .u64) (ca_01 x0 y0 c h0 k0 hc0 hc1 ‹_› ‹_›), hb.1, hb.2, hide ⟨(unhide hc).1 ▸ rfl, fun _ => by rw [(unhide hc).1]; rfl, fun h => absurd h (by omega), fun h => absurd h (by omega)⟩, by rw [ad_step]; exact set_new _ _ _ _ _ 0 (by simp) _⟩, by simp [intOf]⟩
      · exact ⟨⟨1, ca x0 y0 c, ad x0 y0 c, a1, a2, _, by omega, rfl, congrArg (Value.int .u64) (ca_00 x0 y0 c h0 k0 hc0 hc1 ‹_› ‹_›), hb.1, hb.2, hide ⟨(unhide hc).1 ▸ rfl, fun _ => by rw [(unhide hc).1]; rfl, fun h => absurd h (by omega), fun h => absurd h (by omega)⟩, by rw [ad_step]; exact set_new _ _ _ _ _ 0 (by simp) _⟩, by simp [intOf]⟩
    · have hb := ca_bd x1 y1 c h1 k1 hc0 hc1
      have HC := hide hc
      go_wp2
      go_quiet (fail)
      go_wp2
      · exact ⟨⟨2, ca x1 y1 c, a0, ad x1 y1 c, a2, _, by omega, rfl, congrArg (Value.int .u64) (ca_11 x1 y1 c h1 k1 hc0 hc1 ‹_› ‹_›), hb.1, hb.2, hide ⟨(unhide hc).1 ▸ rfl, fun _ => (unhide hc).2.1 (by omega), fun _ => by rw [(unhide hc).1]; rfl, fun h => absurd h (by omega)⟩, by rw [ad_step]; exact set_new _ _ _ _ _ 1 (by simp) _⟩, by simp [intOf]⟩
      · exact ⟨⟨2, ca x1 y1 c, a0, ad x1 y1 c, a2, _, by omega, rfl, congrArg (Value.int .u64) (ca_10 x1 y1 c h1 k1 hc0 hc1 ‹_› ‹_›), hb.1, hb.2, hide ⟨(unhide hc).1 ▸ rfl, fun _ => (unhide hc).2.1 (by omega), fun _ => by rw [(unhide hc).1]; rfl, fun h => absurd h (by omega)⟩, by rw [ad_step]; exact set_new _ _ _ _ _ 1 (by simp) _⟩, by simp [intOf]⟩
      · exact ⟨⟨2, ca x1 y1 c, a0, ad x1 y1 c, a2, _, by omega, rfl, congrArg (Value.int .u64) (ca_01 x1 y1 c h1 k1 hc0 hc1 ‹_› ‹_›), hb.1, hb.2, hide ⟨(unhide hc).1 ▸ rfl, fun _ => (unhide hc).2.1 (by omega), fun _ => by rw [(unhide hc).1]; rfl, fun h => absurd h (by omega)⟩, by rw [ad_step]; exact set_new _ _ _ _ _ 1 (by simp) _⟩, by simp [intOf]⟩
      · exact ⟨⟨2, ca x1 y1 c, a0, ad x1 y1 c, a2, _, by omega, rfl, congrArg (Value.int .u64) (ca_00 x1 y1 c h1 k1 hc0 hc1 ‹_› ‹_›), hb.1, hb.2, hide ⟨(unhide hc).1 ▸ rfl, fun _ => (unhide hc).2.1 (by omega), fun _ => by rw [(unhide hc).1]; rfl, fun h => absurd h (by omega)⟩, by rw [ad_step]; exact set_new _ _ _ _ _ 1 (by simp) _⟩, by simp [intOf]⟩
    · have hb := ca_bd x2 y2 c h2 k2 hc0 hc1
      have HC := hide hc
      go_wp2
      go_quiet (fail)
      go_wp2
      · exact ⟨⟨3, ca x2 y2 c, a0, a1, ad x2 y2 c, _, by omega, rfl, congrArg (Value.int .u64) (ca_11 x2 y2 c h2 k2 hc0 hc1 ‹_› ‹_›), hb.1, hb.2, hide ⟨(unhide hc).1 ▸ rfl, fun _ => (unhide hc).2.1 (by omega), fun _ => (unhide hc).2.2.1 (by omega), fun _ => by rw [(unhide hc).1]; rfl⟩, by rw [ad_step]; exact set_new _ _ _ _ _ 2 (by simp) _⟩, by simp [intOf]⟩
      · exact ⟨⟨3, ca x2 y2 c, a0, a1, ad x2 y2 c, _, by omega, rfl, congrArg (Value.int .u64) (ca_10 x2 y2 c h2 k2 hc0 hc1 ‹_› ‹_›), hb.1, hb.2, hide ⟨(unhide hc).1 ▸ rfl, fun _ => (unhide hc).2.1 (by omega), fun _ => (unhide hc).2.2.1 (by omega), fun _ => by rw [(unhide hc).1]; rfl⟩, by rw [ad_step]; exact set_new _ _ _ _ _ 2 (by simp) _⟩, by simp [intOf]⟩
      · exact ⟨⟨3, ca x2 y2 c, a0, a1, ad x2 y2 c, _, by omega, rfl, congrArg (Value.int .u64) (ca_01 x2 y2 c h2 k2 hc0 hc1 ‹_› ‹_›), hb.1, hb.2, hide ⟨(unhide hc).1 ▸ rfl, fun _ => (unhide hc).2.1 (by omega), fun _ => (unhide hc).2.2.1 (by omega), fun _ => by rw [(unhide hc).1]; rfl⟩, by rw [ad_step]; exact set_new _ _ _ _ _ 2 (by simp) _⟩, by simp [intOf]⟩
      · exact ⟨⟨3, ca x2 y2 c, a0, a1, ad x2 y2 c, _, by omega, rfl, congrArg (Value.int .u64) (ca_00 x2 y2 c h2 k2 hc0 hc1 ‹_› ‹_›), hb.1, hb.2, hide ⟨(unhide hc).1 ▸ rfl, fun _ => (unhide hc).2.1 (by omega), fun _ => (unhide hc).2.2.1 (by omega), fun _ => by rw [(unhide hc).1]; rfl⟩, by rw [ad_step]; exact set_new _ _ _ _ _ 2 (by simp) _⟩, by simp [intOf]⟩
    · go_wp2
      refine bodyPost_ret (v := .tuple #[.agg #[.int .u64 a0, .int .u64 a1, .int .u64 a2], .bool (c == 1)]) (by simp [results, Trym.results7, go_sem]) rfl ⟨ret_add ((unhide hc).2.1 (by omega)) ((unhide hc).2.2.1 (by omega)) ((unhide hc).2.2.2 (by omega)) (congrArg (fun z => z == 1) (unhide hc).1), ?_⟩
      refine Own.setCell (Own.setCell (Own.setCell (Own.drewN (Own.alloc (Own.alloc (Own.alloc (Own.alloc (Own.refl w) _ _) _ _) _ _) _ _) _) ?_ _) ?_ _) ?_ _ <;> (show w.heap.size ≤ w.heap.size + 1 + 1; omega)
end Go.Proofs.Qxb6609010aMods
