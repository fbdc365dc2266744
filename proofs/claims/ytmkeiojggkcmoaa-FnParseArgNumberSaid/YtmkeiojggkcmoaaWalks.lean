/- The contract of parsenum, by a walk of its text: between two places at most six bytes apart it answers the number of the digits up to the first byte that is none, whether there is one, and the place behind them. -/
import Derived.Test.YtmkeiojggkcmoaaProg
import Derived.Test.YtmkeiojggkcmoaaPlain
import Derived.WalkKit
import Derived.ProofKit
import Derived.LoopTactic
import Derived.Below
import Derived.OwnWalk
namespace Go.Proofs.Ytmkeiojggkcmoaa
open Go.RowKit Go.Proofs.Ytmkeiojggkcmoaa.Plain

theorem tooLarge_no (x : Int) (w : World) (h0 : 0 ≤ x) (h1 : x ≤ 1000000) :
    Calls Try.prog 13 #[.int .i64 x] w fun e w' => e = .returned (.bool false) ∧ w = w' := by
  have d1 : decide (1000000 < x) = false := decide_eq_false (by omega)
  have d2 : decide (x < -1000000) = false := decide_eq_false (by omega)
  go_enter Try.func13, Try.ntmps13
  go_wp2
  go_ret
  exact ⟨rfl, rfl⟩

set_option maxHeartbeats 400000 in
theorem parsenum_run (s : ByteArray) (a b k : Nat) (w : World) (hab : a < b) (hak : a ≤ k) (hkb : k ≤ b) (hbs : b ≤ s.size) (h6 : b ≤ a + 6) (hs : s.size ≤ 9223372036854775807)
    (hd : Hid (Digs s a k)) (hn : Hid (Stops s k b)) :
    Calls Try.prog 14 #[.string s, .int .i64 a, .int .i64 b] w fun e w' =>
      e = .returned (.tuple #[.int .i64 (numAt s a (k - a)), .bool (decide (a < k)), .int .i64 k]) ∧ w = w' := by
  have hd0 : decide (b ≤ a) = false := decide_eq_false (by omega)
  go_enter Try.func14, Try.ntmps14
  go_wp2
  go_loop [6, 7, 8] (fun n f i => ∃ (j : Nat) (v : Int) (t : Bool), a ≤ j ∧ j ≤ k ∧ i = .int .i64 j ∧ n = .int .i64 v ∧ f = .bool t ∧ 0 ≤ v ∧ v ≤ 999999 ∧ Hid (v = numAt s a (j - a)) ∧ Hid (t = decide (a < j)))
    (fun _ _ i => k + 1 - (intOf i).toNat)
  case atStart => exact ⟨a, 0, false, Nat.le_refl _, hak, rfl, rfl, rfl, by omega, by omega, by simp [numAt, Hid], by simp [Hid]⟩
  case round =>
    obtain ⟨j, v, t, haj, hjk, rfl, rfl, rfl, hv0, hv1, HV, HT⟩ := hrel
    by_cases hlt : j < k
    · have hjs : j < s.size := by omega
      have hjb : (j : Int) < b := by omega
      have h5 := numAt_five (hd.out.below (by omega : j ≤ k)) haj (by omega)
      have hb := hd.out j haj hlt
      rw [byte_eq hjs] at hb
      obtain ⟨h1, h2⟩ := hb
      have hv5 : v ≤ 99999 := by rw [HV.out]; exact h5.2
      clear h5
      go_wp2_with (go_at_call 13; refine (tooLarge_no _ _ (by omega) (by omega)).mono ?_; rintro e w' ⟨rfl, rfl⟩)
      have hv' : v * 10 + ((s[j].toNat : Int) - 48) = numAt s a (j + 1 - a) := by rw [numAt_snoc s haj, byte_eq hjs, HV.out]
      have h9 := numAt_six (hd.out.below (by omega : j + 1 ≤ k)) (by omega) (by omega)
      rw [← hv'] at h9
      obtain ⟨g0, g1⟩ := h9
      have HV' : Hid (v * 10 + ((s[j].toNat : Int) - 48) = numAt s a (j + 1 - a)) := hv'
      clear hv'
      go_wp2_with (go_at_call 13; refine (tooLarge_no _ _ (by omega) (by omega)).mono ?_; rintro e w' ⟨rfl, rfl⟩)
      go_round
      case rel => exact ⟨j + 1, _, true, by omega, by omega, by go_num, rfl, rfl, g0, g1, HV', by simp [Hid]; omega⟩
      case measure => simp [intOf]; omega
    · obtain rfl : j = k := by omega
      by_cases hjb : (j : Int) < b
      · have hjs : j < s.size := by omega
        rcases hn.out (by omega) with hb | hb
        all_goals
          rw [byte_eq hjs] at hb
          go_wp2_with fail
          go_ret3
          exact ⟨by rw [HV.out, HT.out]; rfl, rfl⟩
      · go_wp2_with fail
        go_ret3
        exact ⟨by rw [HV.out, HT.out]; rfl, rfl⟩

theorem parsenum_none (s : ByteArray) (a : Nat) (w : World) :
    Calls Try.prog 14 #[.string s, .int .i64 a, .int .i64 a] w fun e w' =>
      e = .returned (.tuple #[.int .i64 0, .bool false, .int .i64 a]) ∧ w = w' := by
  go_enter Try.func14, Try.ntmps14
  go_wp2
  go_ret3
  exact ⟨rfl, rfl⟩

/-- parsenum between two places at most six bytes apart: k is where the digits end. -/
theorem parsenum_any (s : ByteArray) (a b k : Nat) (w : World) (hak : a ≤ k) (hkb : k ≤ b) (hbs : b ≤ s.size) (h6 : b ≤ a + 6) (hs : s.size ≤ 9223372036854775807)
    (hd : Hid (Digs s a k)) (hn : Hid (Stops s k b)) :
    Calls Try.prog 14 #[.string s, .int .i64 a, .int .i64 b] w fun e w' =>
      e = .returned (.tuple #[.int .i64 (numAt s a (k - a)), .bool (decide (a < k)), .int .i64 k]) ∧ w = w' := by
  by_cases hab : a < b
  · exact parsenum_run s a b k w hab hak hkb hbs h6 hs hd hn
  · obtain rfl : a = b := by omega
    obtain rfl : a = k := by omega
    simpa [numAt] using parsenum_none s a w

end Go.Proofs.Ytmkeiojggkcmoaa
