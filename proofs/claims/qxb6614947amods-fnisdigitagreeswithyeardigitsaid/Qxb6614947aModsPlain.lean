/-
  The plain reading of fields out of a text: bytes by their place, runs of digits, their value. No Go in sight.
-/
namespace Go.Proofs.Qxb6614947aMods.Plain

/-- The byte at place j; 0 beyond the end. -/
def bt (s : ByteArray) (j : Nat) : Int := ((s.data.toList[j]?.getD 0).toNat : Int)
def isD (c : Int) : Bool := decide (48 ≤ c ∧ c ≤ 57)
/-- The number of digits from place k on, at most f. -/
def run (s : ByteArray) (k : Nat) : Nat → Nat
  | 0 => 0
  | f + 1 => if k < s.size ∧ isD (bt s k) = true then run s (k + 1) f + 1 else 0
/-- The value of m digits from place k on. -/
def val (s : ByteArray) (k : Nat) : Nat → Int
  | 0 => 0
  | j + 1 => val s k j * 10 + (bt s (k + j) - 48)
/-- Is c the byte at place k? -/
def sk (s : ByteArray) (k : Nat) (c : Int) : Bool := decide (k < s.size) && (bt s k == c)

theorem bt_eq (s : ByteArray) (j : Nat) (h : j < s.size) : (s[j].toNat : Int) = bt s j := by
  unfold bt
  rw [List.getElem?_eq_getElem (by exact h)]
  rfl
theorem bt_bd (s : ByteArray) (j : Nat) : 0 ≤ bt s j ∧ bt s j ≤ 255 := by
  unfold bt
  have := (s.data.toList[j]?.getD 0).toNat_lt
  omega
theorem run_le (s : ByteArray) : ∀ (f k : Nat), run s k f ≤ f
  | 0, _ => Nat.le_refl 0
  | f + 1, k => by
    unfold run
    split
    · have := run_le s f (k + 1); omega
    · omega
theorem run_size (s : ByteArray) : ∀ (f k : Nat), k ≤ s.size → k + run s k f ≤ s.size
  | 0, _, h => h
  | f + 1, k, h => by
    unfold run
    split
    · rename_i hc
      have := run_size s f (k + 1) (by omega); omega
    · omega
theorem run_digit (s : ByteArray) : ∀ (f k j : Nat), j < run s k f → k + j < s.size ∧ isD (bt s (k + j)) = true
  | 0, _, j, h => absurd h (Nat.not_lt_zero j)
  | f + 1, k, j, h => by
    unfold run at h
    split at h
    · rename_i hc
      cases j with
      | zero => exact hc
      | succ j =>
        have := run_digit s f (k + 1) j (by omega)
        rw [show k + 1 + j = k + (j + 1) by omega] at this
        exact this
    · exact absurd h (Nat.not_lt_zero j)
theorem run_stop (s : ByteArray) : ∀ (f k : Nat), run s k f < f → k + run s k f < s.size → isD (bt s (k + run s k f)) = false
  | 0, _, h, _ => absurd h (Nat.not_lt_zero _)
  | f + 1, k, h, h' => by
    by_cases hc : k < s.size ∧ isD (bt s k) = true
    · have e : run s k (f + 1) = run s (k + 1) f + 1 := by rw [run, if_pos hc]
      rw [e] at h h' ⊢
      have := run_stop s f (k + 1) (by omega) (by omega)
      rw [show k + 1 + run s (k + 1) f = k + (run s (k + 1) f + 1) by omega] at this
      exact this
    · have e : run s k (f + 1) = 0 := by rw [run, if_neg hc]
      rw [e] at h' ⊢
      cases hd : isD (bt s (k + 0)) with
      | false => rfl
      | true => exact absurd ⟨h', hd⟩ hc
theorem val_bd (s : ByteArray) (k : Nat) : ∀ m, (∀ j, j < m → isD (bt s (k + j)) = true) → 0 ≤ val s k m ∧ val s k m < 10 ^ m
  | 0, _ => ⟨Int.le_refl 0, by show (0 : Int) < 1; decide⟩
  | m + 1, h => by
    have ih := val_bd s k m (fun j hj => h j (by omega))
    have hd : 48 ≤ bt s (k + m) ∧ bt s (k + m) ≤ 57 := of_decide_eq_true (h m (by omega))
    unfold val
    rw [Int.pow_succ]
    omega
theorem val_small (s : ByteArray) (k f : Nat) (hf : f ≤ 9) (m : Nat) (hm : m ≤ run s k f) : 0 ≤ val s k m ∧ val s k m < 1000000000 := by
  have h := val_bd s k m (fun j hj => (run_digit s f k j (by omega)).2)
  have h9 : m ≤ 9 := by have := run_le s f k; omega
  have hp : (10 : Int) ^ m ≤ 10 ^ 9 := by
    have : (10 : Nat) ^ m ≤ 10 ^ 9 := Nat.pow_le_pow_right (by decide) h9
    exact_mod_cast this
  exact ⟨h.1, Int.lt_of_lt_of_le h.2 (by simpa using hp)⟩
end Go.Proofs.Qxb6614947aMods.Plain
