/- The plain laws on digits that the walks of parsenum, parseArgNumber and Digits need: bytes of a string, the number that digits tell, one byte more behind or ahead. No program in this text; conditions stand in each lemma. -/
namespace Go.Proofs.Ytmkeiojggkcmoaa.Plain

/-- The byte of a string at a place; 0 past its end. -/
def byte (s : ByteArray) (j : Nat) : Int := if h : j < s.size then (s[j].toNat : Int) else 0

theorem byte_eq {s : ByteArray} {j : Nat} (h : j < s.size) : byte s j = (s[j].toNat : Int) := by
  unfold byte; rw [dif_pos h]

theorem byte_range (s : ByteArray) (j : Nat) : 0 ≤ byte s j ∧ byte s j ≤ 255 := by
  unfold byte
  split
  · rename_i h
    have := s[j].toNat_lt
    omega
  · omega

/-- All bytes from a up to k are digits. -/
def Digs (s : ByteArray) (a k : Nat) : Prop := ∀ j, a ≤ j → j < k → 48 ≤ byte s j ∧ byte s j ≤ 57

/-- What stands at k, if that is ahead of b, is no digit. -/
def Stops (s : ByteArray) (k b : Nat) : Prop := k < b → byte s k < 48 ∨ 57 < byte s k

/-- The number that m bytes from a on tell. -/
def numAt (s : ByteArray) (a : Nat) : Nat → Int
  | 0 => 0
  | m + 1 => numAt s a m * 10 + (byte s (a + m) - 48)

theorem Digs.nil (s : ByteArray) (a : Nat) : Digs s a a := fun j h1 h2 => by omega

theorem Digs.snoc {s : ByteArray} {a k : Nat} (h : Digs s a k) (h1 : 48 ≤ byte s k) (h2 : byte s k ≤ 57) : Digs s a (k + 1) := by
  intro j ha hk
  by_cases e : j = k
  · subst e; exact ⟨h1, h2⟩
  · exact h j ha (by omega)

theorem Digs.below {s : ByteArray} {a k j : Nat} (h : Digs s a k) (hj : j ≤ k) : Digs s a j :=
  fun i h1 h2 => h i h1 (by omega)

theorem numAt_bounds (s : ByteArray) (a : Nat) : ∀ m, Digs s a (a + m) → 0 ≤ numAt s a m ∧ numAt s a m < 10 ^ m
  | 0, _ => by simp [numAt]
  | m + 1, h => by
    have ih := numAt_bounds s a m (h.below (by omega))
    have hd := h (a + m) (by omega) (by omega)
    have e : (10 : Int) ^ (m + 1) = 10 ^ m * 10 := Int.pow_succ 10 m
    unfold numAt
    omega

/-- Fewer than six digits tell a number below 100000. -/
theorem numAt_five {s : ByteArray} {a j : Nat} (h : Digs s a j) (haj : a ≤ j) (h5 : j ≤ a + 5) : 0 ≤ numAt s a (j - a) ∧ numAt s a (j - a) ≤ 99999 := by
  have h' := numAt_bounds s a (j - a) (by rw [show a + (j - a) = j by omega]; exact h)
  rcases (show j - a = 0 ∨ j - a = 1 ∨ j - a = 2 ∨ j - a = 3 ∨ j - a = 4 ∨ j - a = 5 by omega) with e | e | e | e | e | e <;>
    (rw [e] at h' ⊢; omega)

theorem numAt_six {s : ByteArray} {a j : Nat} (h : Digs s a j) (haj : a ≤ j) (h6 : j ≤ a + 6) : 0 ≤ numAt s a (j - a) ∧ numAt s a (j - a) ≤ 999999 := by
  have h' := numAt_bounds s a (j - a) (by rw [show a + (j - a) = j by omega]; exact h)
  rcases (show j - a = 0 ∨ j - a = 1 ∨ j - a = 2 ∨ j - a = 3 ∨ j - a = 4 ∨ j - a = 5 ∨ j - a = 6 by omega) with e | e | e | e | e | e | e <;>
    (rw [e] at h' ⊢; omega)

theorem numAt_snoc (s : ByteArray) {a j : Nat} (haj : a ≤ j) : numAt s a (j + 1 - a) = numAt s a (j - a) * 10 + (byte s j - 48) := by
  rw [show j + 1 - a = (j - a) + 1 by omega]
  show numAt s a (j - a) * 10 + (byte s (a + (j - a)) - 48) = _
  rw [show a + (j - a) = j by omega]

end Go.Proofs.Ytmkeiojggkcmoaa.Plain
