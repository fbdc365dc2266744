/- The walk of laws.FnParseArgNumber: for every number and every text it returns true. -/
import Derived.Test.YtmkeiojggkcmoaaDigits
namespace Go.Proofs.Ytmkeiojggkcmoaa
open Go.RowKit Go.Proofs.Ytmkeiojggkcmoaa.Plain

/-- parsenum from place 1 on, where all bytes up to e are digits. -/
theorem parsenum_one (s : ByteArray) (e : Nat) (v : Int) (w : World) (h1 : 1 < e) (h6 : e ≤ 7) (hes : e < s.size) (hs : s.size ≤ 9223372036854775807)
    (hd : Hid (Digs s 1 e)) (hv : Hid (v = numAt s 1 (e - 1))) :
    Calls Try.prog 14 #[.string s, .int .i64 1, .int .i64 e] w fun r w' => r = .returned (.tuple #[.int .i64 v, .bool true, .int .i64 e]) ∧ w = w' := by
  have hp := parsenum_any s 1 e e w (by omega) (Nat.le_refl _) (by omega) (by omega) hs hd (fun h => absurd h (Nat.lt_irrefl _))
  rw [← hv.out, show decide (1 < e) = true from decide_eq_true h1] at hp
  exact hp

set_option maxHeartbeats 400000 in
/-- parseArgNumber, where one to six digits and a closing bracket stand behind the first byte: e is the bracket's place, v the number that the digits tell. -/
theorem parseArgNumber_any (s : ByteArray) (e : Nat) (v : Int) (w : World) (h1 : 1 < e) (h6 : e ≤ 7) (hes : e < s.size) (hs : s.size ≤ 9223372036854775807)
    (hd : Hid (Digs s 1 e)) (he : Hid (byte s e = 93)) (hv : Hid (v = numAt s 1 (e - 1))) (hv0 : 0 ≤ v) (hv1 : v ≤ 999999) :
    Calls Try.prog 15 #[.string s] w fun r w' => r = .returned (.tuple #[.int .i64 (v - 1), .int .i64 (e + 1), .bool true]) ∧ w = w' := by
  have d1 : decide (s.size < 3) = false := decide_eq_false (by omega)
  have d2 : decide ((s.size : Int) < 3) = false := decide_eq_false (by omega)
  go_enter Try.func15, Try.ntmps15
  go_wp2
  clear d1 d2
  go_loop [5] (fun i => ∃ j : Nat, 1 ≤ j ∧ j ≤ e ∧ i = .int .i64 j) (fun i => e - (intOf i).toNat)
  case atStart => exact ⟨1, Nat.le_refl _, by omega, rfl⟩
  case round =>
    obtain ⟨j, hj1, hje, rfl⟩ := hrel
    by_cases hlt : j < e
    · have hjs : j < s.size := by omega
      have hb := hd.out j hj1 hlt
      rw [byte_eq hjs] at hb
      obtain ⟨b1, b2⟩ := hb
      have hne : ((s[j].toNat : Int) == 93) = false := by simp; omega
      go_wp2_with fail
      go_round
      case rel => exact ⟨j + 1, by omega, by omega, by go_num⟩
      case measure => simp [intOf]; omega
    · obtain rfl : j = e := by omega
      have hb := he.out
      rw [byte_eq hes] at hb
      have heq : ((s[j].toNat : Int) == 93) = true := by simp; omega
      clear hb
      go_wp2_with (go_at_call 14; refine (parsenum_one s j v _ h1 h6 hes hs hd hv).mono ?_; rintro r w' ⟨rfl, rfl⟩)
      go_ret3
      exact ⟨rfl, rfl⟩

theorem zzParseArgNumber_any (s : ByteArray) (e : Nat) (v : Int) (w : World) (h1 : 1 < e) (h6 : e ≤ 7) (hes : e < s.size) (hs : s.size ≤ 9223372036854775807)
    (hd : Hid (Digs s 1 e)) (he : Hid (byte s e = 93)) (hv : Hid (v = numAt s 1 (e - 1))) (hv0 : 0 ≤ v) (hv1 : v ≤ 999999) :
    Calls Try.prog 12 #[.string s] w fun r w' => r = .returned (.tuple #[.int .i64 (v - 1), .int .i64 (e + 1), .bool true]) ∧ w = w' := by
  go_enter Try.func12, Try.ntmps12
  go_wp2_with (go_at_call 15; refine (parseArgNumber_any s e v _ h1 h6 hes hs hd he hv hv0 hv1).mono ?_; rintro r w' ⟨rfl, rfl⟩)
  go_ret3
  exact ⟨rfl, rfl⟩

theorem implParseArgNumber_any (s : ByteArray) (e : Nat) (v : Int) (w : World) (h1 : 1 < e) (h6 : e ≤ 7) (hes : e < s.size) (hs : s.size ≤ 9223372036854775807)
    (hd : Hid (Digs s 1 e)) (he : Hid (byte s e = 93)) (hv : Hid (v = numAt s 1 (e - 1))) (hv0 : 0 ≤ v) (hv1 : v ≤ 999999) :
    Calls Try.prog 9 #[.string s] w fun r w' => r = .returned (.tuple #[.int .i64 (v - 1), .int .i64 (e + 1), .bool true]) ∧ w = w' := by
  go_enter Try.func9, Try.ntmps9
  go_wp2_with (go_at_call 12; refine (zzParseArgNumber_any s e v _ h1 h6 hes hs hd he hv hv0 hv1).mono ?_; rintro r w' ⟨rfl, rfl⟩)
  go_ret3
  exact ⟨rfl, rfl⟩

/-- impl.ParseArgNumber at a number in brackets, whatever stands behind. -/
theorem implParseArgNumber_brackets (n : Nat) (x r : ByteArray) (w : World) (hx : Hid (Written n x)) (hn : n ≤ 100000) (hr : r.size ≤ 4096) :
    Calls Try.prog 9 #[.string (((⟨#[91]⟩ ++ x) ++ ⟨#[93]⟩) ++ r)] w fun e w' => e = .returned (.tuple #[.int .i64 ((n : Int) - 1), .int .i64 ((x.size : Int) + 2), .bool true]) ∧ w = w' := by
  have hz := inBrackets_size x r
  obtain ⟨_, _, z1, z2⟩ := hx.out
  have h := implParseArgNumber_any (inBrackets x r) (1 + x.size) n w (by omega) (by omega) (by omega) (by omega) (inBrackets_digs hx.out r) (inBrackets_end x r) (inBrackets_tells hx.out r) (by omega) (by omega)
  rw [show (((1 + x.size : Nat) : Int) + 1) = (x.size : Int) + 2 by omega] at h
  exact h

set_option maxHeartbeats 400000 in
theorem lawParseArgNumber_main (n : Nat) (r : ByteArray) (w : World) (h1 : 1 ≤ n) (h2 : n ≤ 100000) (hr : r.size ≤ 4096) :
    Calls Try.prog 5 #[.int .i64 n, .string r] w fun e w' => e = .returned (.bool true) ∧ w = w' := by
  have d1 : decide (2147483647 < (r.size : Int)) = false := decide_eq_false (by omega)
  have d2 : decide ((n : Int) < 1) = false := decide_eq_false (by omega)
  have d3 : decide (100000 < (n : Int)) = false := decide_eq_false (by omega)
  have d4 : decide (4096 < (r.size : Int)) = false := decide_eq_false (by omega)
  go_enter Try.func5, Try.ntmps5
  go_wp2_with fail
  go_at_call 8
  refine (digits_any n _ h1 h2).mono ?_
  rintro e w' ⟨x, rfl, hx, rfl⟩
  have HX : Hid (Written n x) := hx
  obtain ⟨-, -, z1, z2⟩ := hx
  have hq : ((x.size : Int) + 2 == 1 + (x.size : Int) + 1) = true := by rw [beq_iff_eq]; omega
  go_wp2_with (go_at_call 9; refine (implParseArgNumber_brackets n x r _ HX h2 hr).mono ?_; rintro e w' ⟨rfl, rfl⟩)
  go_ret
  exact ⟨rfl, rfl⟩

theorem lawParseArgNumber_out (x : Int) (r : ByteArray) (w : World) (hr : r.size ≤ 9223372036854775807)
    (h : 2147483647 < (r.size : Int) ∨ x < 1 ∨ 100000 < x ∨ 4096 < (r.size : Int)) :
    Calls Try.prog 5 #[.int .i64 x, .string r] w fun e w' => e = .returned (.bool true) ∧ w = w' := by
  by_cases hz : 2147483647 < (r.size : Int)
  · clear h
    go_enter Try.func5, Try.ntmps5
    go_wp2
    go_ret
    exact ⟨rfl, rfl⟩
  · have hz' : (r.size : Int) ≤ 2147483647 := by omega
    by_cases hx : x < 1
    · have b1 : decide (x < 1) = true := decide_eq_true hx
      clear hz h
      go_enter Try.func5, Try.ntmps5
      go_wp2
      go_ret
      exact ⟨rfl, rfl⟩
    · have b1 : decide (x < 1) = false := decide_eq_false hx
      by_cases hy : 100000 < x
      · have b2 : decide (100000 < x) = true := decide_eq_true hy
        clear hz h
        go_enter Try.func5, Try.ntmps5
        go_wp2
        go_ret
        exact ⟨rfl, rfl⟩
      · have b2 : decide (100000 < x) = false := decide_eq_false hy
        have hw : 4096 < (r.size : Int) := by omega
        have b3 : decide (4096 < (r.size : Int)) = true := decide_eq_true hw
        clear hz h
        go_enter Try.func5, Try.ntmps5
        go_wp2
        go_ret
        exact ⟨rfl, rfl⟩

/-- The walk of the law, every input. -/
theorem lawParseArgNumber_any (x : Int) (r : ByteArray) (w : World) (hr : r.size ≤ 9223372036854775807) :
    Calls Try.prog 5 #[.int .i64 x, .string r] w fun e w' => e = .returned (.bool true) ∧ w = w' := by
  by_cases h : 2147483647 < (r.size : Int) ∨ x < 1 ∨ 100000 < x ∨ 4096 < (r.size : Int)
  · exact lawParseArgNumber_out x r w hr h
  · obtain ⟨n, rfl⟩ : ∃ n : Nat, x = n := ⟨x.toNat, by omega⟩
    exact lawParseArgNumber_main n r w (by omega) (by omega) (by omega)

end Go.Proofs.Ytmkeiojggkcmoaa
