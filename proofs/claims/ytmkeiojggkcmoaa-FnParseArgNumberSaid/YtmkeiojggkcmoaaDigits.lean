/- The contract of spec.Digits at base ten, by a walk of its text: a number from 1 to 100000 is written in one to six digits that tell it. -/
import Derived.Test.YtmkeiojggkcmoaaWalks
import Derived.Test.YtmkeiojggkcmoaaDigitsPlain
namespace Go.Proofs.Ytmkeiojggkcmoaa
open Go.RowKit Go.Proofs.Ytmkeiojggkcmoaa.Plain

def SomeDigits (n : Nat) (w : World) (e : Ending) (w' : World) : Prop := ∃ x : ByteArray, e = .returned (.string x) ∧ Written n x ∧ w = w'

theorem cut_run (m : Nat) (w : World) :
    (Instr.slice 9 (.string ⟨#[48, 49, 50, 51, 52, 53, 54, 55, 56, 57, 97, 98, 99, 100, 101, 102]⟩) (some (.int .u64 ((m : Int) % 10))) (some (.int .u64 ((m : Int) % 10 + 1))) none).run Try.prog w = .ok (.string (one m)) w := by
  have hz : (⟨#[48, 49, 50, 51, 52, 53, 54, 55, 56, 57, 97, 98, 99, 100, 101, 102]⟩ : ByteArray).size = 16 := rfl
  rw [run_slice_string w 9 _ .u64 .u64 _ _ Try.underlying9 (by omega) (by omega) (by rw [hz]; omega)]
  rw [show ((m : Int) % 10).toNat = m % 10 by omega, show ((m : Int) % 10 + 1).toNat = m % 10 + 1 by omega, letters_cut _ (by omega)]
  rfl

set_option maxHeartbeats 400000 in
theorem digits_any (n : Nat) (w : World) (h1 : 1 ≤ n) (h2 : n ≤ 100000) :
    Calls Try.prog 8 #[.int .u64 n, .int .i64 10, .bool false] w (SomeDigits n w) := by
  go_enter Try.func8, Try.ntmps8
  go_wp2
  go_loop [0, 8] (fun q s => ∃ (m : Nat) (x : ByteArray), 1 ≤ m ∧ m ≤ 100000 ∧ q = .int .u64 m ∧ s = .string x ∧ Hid (Writing n m x))
    (fun q _ => (intOf q).toNat)
  case atStart => exact ⟨n, _, h1, h2, rfl, rfl, Writing.start n⟩
  case round =>
    obtain ⟨m, x, hm1, hm2, rfl, rfl, HV⟩ := hrel
    have hx := HV.out.size hm1 h2
    have hcut := cut_run m
    have hone := one_size m
    by_cases hlt : m < 10
    · have hq : ((m : Int) / 10 == 0) = true := by simp; omega
      have HD : Hid (Written n (one m ++ x)) := HV.out.done hm1 hlt h2
      go_wp2
      go_ret
      exact ⟨_, rfl, HD.out, rfl⟩
    · have hq : ((m : Int) / 10 == 0) = false := by simp; omega
      have HV' : Hid (Writing n (m / 10) (one m ++ x)) := HV.out.step
      go_wp2
      go_round
      case rel => exact ⟨m / 10, _, by omega, by omega, by go_num, rfl, HV'⟩
      case measure => simp [intOf]; omega

end Go.Proofs.Ytmkeiojggkcmoaa
