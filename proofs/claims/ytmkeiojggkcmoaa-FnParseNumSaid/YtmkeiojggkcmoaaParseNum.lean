/- The walk of laws.FnParseNum: for every string and every two places it returns true. -/
import Derived.Test.YtmkeiojggkcmoaaWalks
namespace Go.Proofs.Ytmkeiojggkcmoaa
open Go.RowKit Go.Proofs.Ytmkeiojggkcmoaa.Plain

theorem zzParseNum_any (s : ByteArray) (a b k : Nat) (w : World) (hak : a ≤ k) (hkb : k ≤ b) (hbs : b ≤ s.size) (h6 : b ≤ a + 6) (hs : s.size ≤ 9223372036854775807)
    (hd : Hid (Digs s a k)) (hn : Hid (Stops s k b)) :
    Calls Try.prog 11 #[.string s, .int .i64 a, .int .i64 b] w fun e w' =>
      e = .returned (.tuple #[.int .i64 (numAt s a (k - a)), .bool (decide (a < k)), .int .i64 k]) ∧ w = w' := by
  go_enter Try.func11, Try.ntmps11
  go_wp2_with (go_at_call 14; refine (parsenum_any s a b k _ hak hkb hbs h6 hs hd hn).mono ?_; rintro e w' ⟨rfl, rfl⟩)
  go_ret3
  exact ⟨rfl, rfl⟩

theorem implParseNum_any (s : ByteArray) (a b k : Nat) (w : World) (hak : a ≤ k) (hkb : k ≤ b) (hbs : b ≤ s.size) (h6 : b ≤ a + 6) (hs : s.size ≤ 9223372036854775807)
    (hd : Hid (Digs s a k)) (hn : Hid (Stops s k b)) :
    Calls Try.prog 7 #[.string s, .int .i64 a, .int .i64 b] w fun e w' =>
      e = .returned (.tuple #[.int .i64 (numAt s a (k - a)), .bool (decide (a < k)), .int .i64 k]) ∧ w = w' := by
  go_enter Try.func7, Try.ntmps7
  go_wp2_with (go_at_call 11; refine (zzParseNum_any s a b k _ hak hkb hbs h6 hs hd hn).mono ?_; rintro e w' ⟨rfl, rfl⟩)
  go_ret3
  exact ⟨rfl, rfl⟩

set_option maxHeartbeats 400000 in
theorem lawParseNum_main (s : ByteArray) (a b : Nat) (w : World) (hab : a ≤ b) (hbs : b ≤ s.size) (h6 : b ≤ a + 6) (hs : s.size ≤ 2147483647) :
    Calls Try.prog 4 #[.string s, .int .i64 a, .int .i64 b] w fun e w' => e = .returned (.bool true) ∧ w = w' := by
  have d1 : decide (2147483647 < (s.size : Int)) = false := decide_eq_false (by omega)
  have d2 : decide ((a : Int) < 0) = false := decide_eq_false (by omega)
  have d3 : decide (s.size < b) = false := decide_eq_false (by omega)
  have d4 : decide (b < a) = false := decide_eq_false (by omega)
  have d5 : decide (6 < (b : Int) - a) = false := decide_eq_false (by omega)
  go_enter Try.func4, Try.ntmps4
  go_wp2
  clear d1 d2 d3 d4 d5
  go_loop [7, 8] (fun n i => ∃ (j : Nat) (v : Int), a ≤ j ∧ j ≤ b ∧ i = .int .i64 j ∧ n = .int .i64 v ∧ Hid (v = numAt s a (j - a)) ∧ Hid (Digs s a j))
    (fun _ i => b - (intOf i).toNat)
  case atStart => exact ⟨a, 0, Nat.le_refl _, hab, rfl, rfl, by simp [numAt, Hid], Digs.nil s a⟩
  case round =>
    obtain ⟨j, v, haj, hjb, rfl, rfl, HV, HD⟩ := hrel
    by_cases hlt : j < b
    · have hjs : j < s.size := by omega
      by_cases hdig : 48 ≤ (s[j].toNat : Int) ∧ (s[j].toNat : Int) ≤ 57
      · obtain ⟨h1, h2⟩ := hdig
        have HD' : Hid (Digs s a (j + 1)) := HD.out.snoc (by rw [byte_eq hjs]; exact h1) (by rw [byte_eq hjs]; exact h2)
        have hv' : v * 10 + ((s[j].toNat : Int) - 48) = numAt s a (j + 1 - a) := by rw [numAt_snoc s haj, byte_eq hjs, HV.out]
        have h5 := numAt_five HD.out haj (by omega)
        rw [← HV.out] at h5
        obtain ⟨g0, g1⟩ := h5
        have HV' : Hid (v * 10 + ((s[j].toNat : Int) - 48) = numAt s a (j + 1 - a)) := hv'
        clear hv'
        go_wp2_with fail
        go_round
        case rel => exact ⟨j + 1, _, by omega, by omega, by go_num, rfl, HV', HD'⟩
        case measure => simp [intOf]; omega
      · obtain rfl : v = numAt s a (j - a) := HV.out
        have HN : Hid (Stops s j b) := fun _ => by rw [byte_eq hjs]; omega
        rcases (show (s[j].toNat : Int) < 48 ∨ 57 < (s[j].toNat : Int) by omega) with hb | hb
        all_goals
          clear hdig
          go_wp2_with (go_at_call 7; refine (implParseNum_any s a b j _ haj hjb hbs h6 (by omega) HD HN).mono ?_; rintro e w' ⟨rfl, rfl⟩)
          go_ret
          exact ⟨rfl, rfl⟩
    · obtain rfl : j = b := by omega
      obtain rfl : v = numAt s a (j - a) := HV.out
      have HN : Hid (Stops s j j) := fun h => absurd h (Nat.lt_irrefl _)
      go_wp2_with (go_at_call 7; refine (implParseNum_any s a j j _ haj (Nat.le_refl _) hbs h6 (by omega) HD HN).mono ?_; rintro e w' ⟨rfl, rfl⟩)
      go_ret
      exact ⟨rfl, rfl⟩

theorem lawParseNum_out (s : ByteArray) (x y : Int) (w : World) (hs : s.size ≤ 9223372036854775807)
    (h : 2147483647 < (s.size : Int) ∨ x < 0 ∨ (0 ≤ x ∧ (s.size : Int) < y) ∨ (0 ≤ x ∧ y ≤ s.size ∧ y < x) ∨ (0 ≤ x ∧ y ≤ s.size ∧ x ≤ y ∧ 6 < y - x)) :
    Calls Try.prog 4 #[.string s, .int .i64 x, .int .i64 y] w fun e w' => e = .returned (.bool true) ∧ w = w' := by
  by_cases hz : 2147483647 < (s.size : Int)
  · clear h
    go_enter Try.func4, Try.ntmps4
    go_wp2
    go_ret
    exact ⟨rfl, rfl⟩
  · have hz' : (s.size : Int) ≤ 2147483647 := by omega
    rcases h with h | h | h | h | h
    · omega
    · have b1 : decide (x < 0) = true := decide_eq_true h
      clear hz
      go_enter Try.func4, Try.ntmps4
      go_wp2
      go_ret
      exact ⟨rfl, rfl⟩
    · obtain ⟨h0, h1⟩ := h
      have b1 : decide (x < 0) = false := decide_eq_false (by omega)
      have b2 : decide ((s.size : Int) < y) = true := decide_eq_true h1
      clear hz
      go_enter Try.func4, Try.ntmps4
      go_wp2
      go_ret
      exact ⟨rfl, rfl⟩
    · obtain ⟨h0, h1, h2⟩ := h
      have b1 : decide (x < 0) = false := decide_eq_false (by omega)
      have b2 : decide ((s.size : Int) < y) = false := decide_eq_false (by omega)
      have b3 : decide (y < x) = true := decide_eq_true h2
      clear hz
      go_enter Try.func4, Try.ntmps4
      go_wp2
      go_ret
      exact ⟨rfl, rfl⟩
    · obtain ⟨h0, h1, h2, h3⟩ := h
      have b1 : decide (x < 0) = false := decide_eq_false (by omega)
      have b2 : decide ((s.size : Int) < y) = false := decide_eq_false (by omega)
      have b3 : decide (y < x) = false := decide_eq_false (by omega)
      have b4 : decide (6 < y - x) = true := decide_eq_true h3
      clear hz
      go_enter Try.func4, Try.ntmps4
      go_wp2
      go_ret
      exact ⟨rfl, rfl⟩

/-- The walk of the law, every input. -/
theorem lawParseNum_any (s : ByteArray) (x y : Int) (w : World) (hs : s.size ≤ 9223372036854775807) :
    Calls Try.prog 4 #[.string s, .int .i64 x, .int .i64 y] w fun e w' => e = .returned (.bool true) ∧ w = w' := by
  by_cases h : 2147483647 < (s.size : Int) ∨ x < 0 ∨ (0 ≤ x ∧ (s.size : Int) < y) ∨ (0 ≤ x ∧ y ≤ s.size ∧ y < x) ∨ (0 ≤ x ∧ y ≤ s.size ∧ x ≤ y ∧ 6 < y - x)
  · exact lawParseNum_out s x y w hs h
  · obtain ⟨a, rfl⟩ : ∃ a : Nat, x = a := ⟨x.toNat, by omega⟩
    obtain ⟨b, rfl⟩ : ∃ b : Nat, y = b := ⟨y.toNat, by omega⟩
    exact lawParseNum_main s a b w (by omega) (by omega) (by omega) (by omega)

end Go.Proofs.Ytmkeiojggkcmoaa
