/-
  The plain laws of policy names: lists of bytes alone, no Go in sight.
-/
namespace Go.Proofs.Qxb6608932aMods.Plain

/-- A byte of a policy name, as an integer. -/
def okI (c : Int) : Bool := decide ((97 ≤ c ∧ c ≤ 122) ∨ (48 ≤ c ∧ c ≤ 57) ∨ c = 45 ∨ c = 95)
def okB (c : UInt8) : Bool := okI (c.toNat : Int)
def okL (l : List UInt8) : Bool := l.all okB
/-- A policy name: 1 to 64 such bytes. -/
def vn (l : List UInt8) : Bool := decide (1 ≤ l.length) && (decide (l.length ≤ 64) && okL l)

theorem vn_short {l : List UInt8} (h : l.length < 1) : vn l = false := by
  simp [vn]; intro h'; omega
theorem vn_long {l : List UInt8} (h : 64 < l.length) : vn l = false := by
  simp [vn]; intro _ h'; omega
theorem vn_mid {l : List UInt8} (h1 : 1 ≤ l.length) (h2 : l.length ≤ 64) : vn l = okL l := by
  simp [vn, h1, h2]

theorem okL_append (a b : List UInt8) : okL (a ++ b) = (okL a && okL b) := by simp [okL]
theorem okL_snoc (a : List UInt8) (c : UInt8) : okL (a ++ [c]) = (okL a && okB c) := by simp [okL]
theorem okL_of_bad {l : List UInt8} {k : Nat} (hk : k < l.length) (h : okB l[k] = false) : okL l = false := by
  unfold okL
  rw [List.all_eq_false]
  exact ⟨l[k], List.getElem_mem hk, by simp [h]⟩

theorem vn_one (c : UInt8) : vn [c] = okB c := by simp [vn, okL]

theorem vn_join (a b : List UInt8) (ha : 1 ≤ a.length) (hb : 1 ≤ b.length) :
    vn (a ++ b) = (vn a && (vn b && decide (a.length + b.length ≤ 64))) := by
  unfold vn
  rw [okL_append, List.length_append]
  by_cases h : a.length + b.length ≤ 64
  · have h1 : a.length ≤ 64 := by omega
    have h2 : b.length ≤ 64 := by omega
    have h3 : 1 ≤ a.length + b.length := by omega
    simp [ha, hb, h, h1, h2, h3]
  · simp [h]

theorem vn_insert (s : List UInt8) (i : Nat) (c : UInt8) :
    vn (s.take i ++ [c] ++ s.drop i) = (okB c && (decide (s.length < 64) && (decide (s.length = 0) || vn s))) := by
  have e : okL (s.take i ++ [c] ++ s.drop i) = (okB c && okL s) := by
    have : okL s = (okL (s.take i) && okL (s.drop i)) := by rw [← okL_append, List.take_append_drop]
    rw [okL_append, okL_append, this]
    have : okL [c] = okB c := by simp [okL]
    rw [this]
    cases okL (s.take i) <;> cases okB c <;> cases okL (s.drop i) <;> rfl
  have hl : (s.take i ++ [c] ++ s.drop i).length = s.length + 1 := by
    simp; omega
  unfold vn
  rw [e, hl]
  by_cases h : s.length < 64
  · have h1 : s.length + 1 ≤ 64 := by omega
    have h2 : s.length ≤ 64 := by omega
    by_cases h0 : s.length = 0
    · have : s = [] := List.length_eq_zero_iff.1 h0
      subst this
      simp [okL]
    · have h3 : 1 ≤ s.length := by omega
      simp [h, h1, h2, h3, h0]
  · have h1 : ¬ s.length + 1 ≤ 64 := by omega
    simp [h, h1]

/-! ### The alphabet as it is spelt out: abcdefghijklmnopqrstuvwxyz0123456789-_ -/
def chars : List UInt8 := [97, 98, 99, 100, 101, 102, 103, 104, 105, 106, 107, 108, 109, 110, 111, 112, 113, 114, 115, 116, 117, 118, 119, 120, 121, 122, 48, 49, 50, 51, 52, 53, 54, 55, 56, 57, 45, 95]
theorem chars_len : chars.length = 38 := rfl
def at' (j : Nat) : Int := ((chars[j]?.getD 0).toNat : Int)
theorem ok_at : ∀ j, j < 38 → okI (at' j) = true := by decide +kernel
theorem at_of_ok (c : Int) (h : okI c = true) : ∃ j, j < 38 ∧ at' j = c := by
  have h' : (97 ≤ c ∧ c ≤ 122) ∨ (48 ≤ c ∧ c ≤ 57) ∨ c = 45 ∨ c = 95 := by simpa [okI] using h
  have key : ∀ n : Nat, n < 123 → okI (n : Int) = true → ∃ j, j < 38 ∧ at' j = (n : Int) := by decide +kernel
  have h0 : 0 ≤ c := by omega
  obtain ⟨n, rfl⟩ := Int.eq_ofNat_of_zero_le h0
  exact key n (by omega) h
end Go.Proofs.Qxb6608932aMods.Plain
