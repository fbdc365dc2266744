/- The plain laws on a number that is written in digits: digits laid ahead one by one tell the number, and between brackets they are read back as that number. No program in this text; conditions stand in each lemma. -/
import Derived.Test.YtmkeiojggkcmoaaPlain
namespace Go.Proofs.Ytmkeiojggkcmoaa.Plain

/-- The number that a list of digits tells, behind a number v. -/
def tell (l : List UInt8) (v : Int) : Int := l.foldl (fun v c => v * 10 + ((c.toNat : Int) - 48)) v

theorem tell_lin (l : List UInt8) : ∀ v : Int, tell l v = v * 10 ^ l.length + tell l 0 := by
  induction l with
  | nil => intro v; simp [tell]
  | cons c l ih =>
    intro v
    have e : ∀ u, tell (c :: l) u = tell l (u * 10 + ((c.toNat : Int) - 48)) := fun _ => rfl
    rw [e, e, ih, ih (0 * 10 + _), List.length_cons, Int.pow_succ, Int.add_mul, Int.add_mul, Int.mul_assoc, Int.mul_comm 10]
    simp
    omega

theorem tell_snoc (l : List UInt8) (c : UInt8) : tell (l ++ [c]) 0 = tell l 0 * 10 + ((c.toNat : Int) - 48) := by
  simp [tell, List.foldl_append]

/-- Every byte is a digit. -/
def AllDigits (l : List UInt8) : Prop := ∀ c ∈ l, 48 ≤ c.toNat ∧ c.toNat ≤ 57

theorem tell_nonneg (l : List UInt8) (h : AllDigits l) : ∀ v, 0 ≤ v → 0 ≤ tell l v := by
  induction l with
  | nil => intro v hv; exact hv
  | cons c l ih =>
    intro v hv
    have hc := h c (by simp)
    have hn : 0 ≤ v * 10 + ((c.toNat : Int) - 48) := by omega
    exact ih (fun d hd => h d (by simp [hd])) _ hn

/-- One digit as a text. -/
def one (m : Nat) : ByteArray := ⟨#[UInt8.ofNat (48 + m % 10)]⟩

theorem one_size (m : Nat) : (one m).size = 1 := rfl

theorem one_digit (m : Nat) : (UInt8.ofNat (48 + m % 10)).toNat = 48 + m % 10 := by
  rw [UInt8.toNat_ofNat']
  omega

/-- Where Digits stands: m is still to be written, x is written. -/
def Writing (n m : Nat) (x : ByteArray) : Prop := AllDigits x.data.toList ∧ (m : Int) * 10 ^ x.size + tell x.data.toList 0 = n

theorem Writing.start (n : Nat) : Writing n n ⟨#[]⟩ := ⟨fun c hc => by simp at hc, by simp [tell, ByteArray.size]⟩

theorem Writing.step {n m : Nat} {x : ByteArray} (h : Writing n m x) : Writing n (m / 10) (one m ++ x) := by
  obtain ⟨hd, hv⟩ := h
  have e : (one m ++ x).data.toList = UInt8.ofNat (48 + m % 10) :: x.data.toList := by simp [one]
  have es : (one m ++ x).size = x.size + 1 := by rw [ByteArray.size_append, one_size]; omega
  have el : x.data.toList.length = x.size := by simp
  refine ⟨?_, ?_⟩
  · rw [e]
    intro c hc
    rcases List.mem_cons.1 hc with rfl | hc
    · rw [one_digit]; omega
    · exact hd c hc
  · rw [e, es]
    show _ + tell x.data.toList (0 * 10 + (((UInt8.ofNat (48 + m % 10)).toNat : Int) - 48)) = _
    rw [tell_lin, one_digit, el, ← hv]
    have hm : (m : Int) = ((m / 10 : Nat) : Int) * 10 + ((m % 10 : Nat) : Int) := by omega
    have e2 : (0 * 10 + (((48 + m % 10 : Nat) : Int) - 48)) = ((m % 10 : Nat) : Int) := by omega
    rw [e2, Int.pow_succ, Int.mul_comm _ (10 : Int), ← Int.mul_assoc, ← Int.add_assoc, ← Int.add_mul, ← hm]

theorem Writing.size {n m : Nat} {x : ByteArray} (h : Writing n m x) (hm : 1 ≤ m) (hn : n ≤ 100000) : x.size ≤ 5 := by
  obtain ⟨hd, hv⟩ := h
  have ht := tell_nonneg _ hd 0 (by omega)
  by_cases hs : x.size ≤ 5
  · exact hs
  · exfalso
    have h6 : 10 ^ 6 ≤ 10 ^ x.size := Nat.pow_le_pow_right (by omega) (by omega)
    have h7 : 10 ^ x.size ≤ m * 10 ^ x.size := Nat.le_mul_of_pos_left _ (by omega)
    have h8 : ((m * 10 ^ x.size : Nat) : Int) = (m : Int) * 10 ^ x.size := by simp
    omega

/-- x is the number n in digits: one to six of them. -/
def Written (n : Nat) (x : ByteArray) : Prop := AllDigits x.data.toList ∧ tell x.data.toList 0 = n ∧ 1 ≤ x.size ∧ x.size ≤ 6

theorem Writing.done {n m : Nat} {x : ByteArray} (h : Writing n m x) (hm : 1 ≤ m) (hlt : m < 10) (hn : n ≤ 100000) : Written n (one m ++ x) := by
  have hs := h.size hm hn
  have es : (one m ++ x).size = x.size + 1 := by rw [ByteArray.size_append, one_size]; omega
  obtain ⟨hd, hv⟩ := h.step
  rw [show m / 10 = 0 by omega] at hv
  exact ⟨hd, by simpa using hv, by omega, by omega⟩

/-- The sixteen letters' text, cut at one of the first ten. -/
theorem letters_cut (d : Nat) (h : d < 10) : (⟨#[48, 49, 50, 51, 52, 53, 54, 55, 56, 57, 97, 98, 99, 100, 101, 102]⟩ : ByteArray).extract d (d + 1) = ⟨#[UInt8.ofNat (48 + d)]⟩ := by
  apply ByteArray.ext
  rw [ByteArray.data_extract]
  rcases (show d = 0 ∨ d = 1 ∨ d = 2 ∨ d = 3 ∨ d = 4 ∨ d = 5 ∨ d = 6 ∨ d = 7 ∨ d = 8 ∨ d = 9 by omega) with rfl | rfl | rfl | rfl | rfl | rfl | rfl | rfl | rfl | rfl <;> rfl

/-! ### Read back -/

theorem getD_lt (l : List UInt8) (j : Nat) (h : j < l.length) : l.getD j 0 = l[j] := by
  simp [List.getD_eq_getElem?_getD, h]

theorem byte_list (s : ByteArray) (j : Nat) : byte s j = ((s.data.toList.getD j 0).toNat : Int) := by
  unfold byte
  split
  · rename_i h
    have h' : j < s.data.toList.length := by simpa using h
    rw [getD_lt _ _ h']
    rfl
  · rename_i h
    have h' : s.data.toList.length ≤ j := by simpa using h
    rw [List.getD_eq_getElem?_getD, List.getElem?_eq_none h']
    rfl

/-- A number in brackets, and what stands behind. -/
def inBrackets (x r : ByteArray) : ByteArray := (⟨#[91]⟩ ++ x) ++ ⟨#[93]⟩ ++ r

theorem inBrackets_list (x r : ByteArray) : (inBrackets x r).data.toList = 91 :: (x.data.toList ++ 93 :: r.data.toList) := by
  simp [inBrackets]

theorem inBrackets_size (x r : ByteArray) : (inBrackets x r).size = x.size + 2 + r.size := by
  have h : (inBrackets x r).size = (inBrackets x r).data.toList.length := by simp
  rw [h, inBrackets_list]
  simp
  omega

theorem inBrackets_byte {x : ByteArray} (r : ByteArray) {j : Nat} (h : j < x.size) : byte (inBrackets x r) (1 + j) = ((x.data.toList.getD j 0).toNat : Int) := by
  rw [byte_list, inBrackets_list, show 1 + j = j + 1 by omega, List.getD_cons_succ, List.getD_eq_getElem?_getD, List.getElem?_append_left (by simpa using h), List.getD_eq_getElem?_getD]

theorem inBrackets_end (x r : ByteArray) : byte (inBrackets x r) (1 + x.size) = 93 := by
  rw [byte_list, inBrackets_list, show 1 + x.size = x.size + 1 by omega, List.getD_cons_succ, List.getD_eq_getElem?_getD, List.getElem?_append_right (by simp)]
  simp

theorem inBrackets_digs {n : Nat} {x : ByteArray} (h : Written n x) (r : ByteArray) : Digs (inBrackets x r) 1 (1 + x.size) := by
  intro j h1 h2
  obtain ⟨i, rfl⟩ : ∃ i, j = 1 + i := ⟨j - 1, by omega⟩
  have hi : i < x.size := by omega
  have hi' : i < x.data.toList.length := by simpa using hi
  rw [inBrackets_byte r hi, getD_lt _ _ hi']
  have := h.1 _ (List.getElem_mem hi')
  omega

theorem inBrackets_num {x : ByteArray} (r : ByteArray) : ∀ m, m ≤ x.size → numAt (inBrackets x r) 1 m = tell (x.data.toList.take m) 0
  | 0, _ => by simp [numAt, tell]
  | m + 1, h => by
    have hm' : m < x.data.toList.length := by simp; omega
    unfold numAt
    rw [inBrackets_num r m (by omega), inBrackets_byte r (by omega), List.take_succ_eq_append_getElem hm', tell_snoc, getD_lt _ _ hm']

theorem inBrackets_tells {n : Nat} {x : ByteArray} (h : Written n x) (r : ByteArray) : (n : Int) = numAt (inBrackets x r) 1 (1 + x.size - 1) := by
  rw [show 1 + x.size - 1 = x.size by omega, inBrackets_num r _ (Nat.le_refl _), List.take_of_length_le (by simp), h.2.1]

end Go.Proofs.Ytmkeiojggkcmoaa.Plain
