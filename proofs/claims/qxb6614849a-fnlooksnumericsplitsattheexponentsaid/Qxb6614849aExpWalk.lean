/- The walk of 'FnLooksNumericSplitsAtTheExponent' within the bounds. -/
import Derived.Test.Qxb6614849aLooks
namespace Go.Proofs.Qxb6614849a
open Go.RowKit

set_option maxHeartbeats 400000 in
theorem exp_core (a b : ByteArray) (na nb ha sda sdb W : Bool) (w : World) (h0 : a.size ≤ 65536) (h1 : b.size ≤ 65536)
    (HY : Hid (∀ wx, Calls Try.prog 5 #[.string a, .string b] wx fun e w' => e = .returned (.bool true) ∧ wx = w'))
    (HE : Hid (∀ wx, Calls Try.prog 6 #[.string (a ++ ⟨#[101]⟩ ++ b)] wx fun e w' => e = .returned (.bool W) ∧ wx = w'))
    (HU : Hid (∀ wx, Calls Try.prog 6 #[.string (a ++ ⟨#[69]⟩ ++ b)] wx fun e w' => e = .returned (.bool W) ∧ wx = w'))
    (HA : Hid (∀ wx, Calls Try.prog 6 #[.string a] wx fun e w' => e = .returned (.bool na) ∧ wx = w'))
    (HB : Hid (∀ wx, Calls Try.prog 6 #[.string b] wx fun e w' => e = .returned (.bool nb) ∧ wx = w'))
    (HH : Hid (∀ wx, Calls Try.prog 7 #[.string a, .int .u8 101, .int .u8 69] wx fun e w' => e = .returned (.bool ha) ∧ wx = w'))
    (HSA : Hid (∀ wx, Calls Try.prog 8 #[.string a] wx fun e w' => e = .returned (.bool sda) ∧ wx = w'))
    (HSB : Hid (∀ wx, Calls Try.prog 8 #[.string b] wx fun e w' => e = .returned (.bool sdb) ∧ wx = w'))
    (HW : Hid (W = (na && !ha && sdb))) (KA : Hid (sda = true → na = true)) (KB : Hid (sdb = true → nb = true)) :
    Calls Try.prog 3 #[.string a, .string b] w fun e w' => e = .returned (.bool true) ∧ w = w' := by
  go_enter Try.func3, Try.ntmps3
  go_wp2_with fail
  refine (HY.out _).mono ?_
  rintro e w' ⟨rfl, rfl⟩
  go_wp2_with fail
  refine (HE.out _).mono ?_
  rintro e w' ⟨rfl, rfl⟩
  go_wp2_with fail
  refine (HU.out _).mono ?_
  rintro e w' ⟨rfl, rfl⟩
  go_wp2_with fail
  refine (HA.out _).mono ?_
  rintro e w' ⟨rfl, rfl⟩
  go_wp2_with fail
  refine (HB.out _).mono ?_
  rintro e w' ⟨rfl, rfl⟩
  go_upto_region 11 with fail
  go_cut [7, 9] (fun t7 t wx => t7 = .bool na ∧ t = .bool W ∧ w = wx)
  case first =>
    rcases Bool.eq_false_or_eq_true na with hn | hn
    · rcases Bool.eq_false_or_eq_true ha with hh | hh
      · have HT : Hid (W = false) := by show _ = _; rw [HW.out, hh]; simp
        go_wp2_with (first | (go_at_call 7; refine (HH.out _).mono ?_; rintro e w' ⟨rfl, rfl⟩) | (go_at_call 8; refine (HSB.out _).mono ?_; rintro e w' ⟨rfl, rfl⟩))
        go_meet
        case rel => exact ⟨by rw [hn], by rw [HT.out], rfl⟩
      · have HT : Hid (W = sdb) := by show _ = _; rw [HW.out, hn, hh]; simp
        go_wp2_with (first | (go_at_call 7; refine (HH.out _).mono ?_; rintro e w' ⟨rfl, rfl⟩) | (go_at_call 8; refine (HSB.out _).mono ?_; rintro e w' ⟨rfl, rfl⟩))
        go_meet
        case rel => exact ⟨by rw [hn], by rw [HT.out], rfl⟩
    · have HT : Hid (W = false) := by show _ = _; rw [HW.out, hn]; simp
      go_wp2_with (first | (go_at_call 7; refine (HH.out _).mono ?_; rintro e w' ⟨rfl, rfl⟩) | (go_at_call 8; refine (HSB.out _).mono ?_; rintro e w' ⟨rfl, rfl⟩))
      go_meet
      case rel => exact ⟨by rw [hn], by rw [HT.out], rfl⟩
  case rest =>
  obtain ⟨rfl, rfl, rfl⟩ := hcut
  clear HY HE HU HA HB HH HW
  go_wp2_with fail
  refine (HSA.out _).mono ?_
  rintro e w' ⟨rfl, rfl⟩
  clear HSA
  rcases Bool.eq_false_or_eq_true sda with hs | hs
  · have hn : na = true := KA.out hs
    clear KA
    go_wp2_with fail
    refine (HSB.out _).mono ?_
    rintro e w' ⟨rfl, rfl⟩
    clear HSB
    rcases Bool.eq_false_or_eq_true sdb with hs2 | hs2
    · have hn2 : nb = true := KB.out hs2
      clear KB
      go_wp2
      go_ret
      exact ⟨rfl, rfl⟩
    · clear KB
      go_wp2
      go_ret
      exact ⟨rfl, rfl⟩
  · clear KA
    go_wp2_with fail
    refine (HSB.out _).mono ?_
    rintro e w' ⟨rfl, rfl⟩
    clear HSB
    rcases Bool.eq_false_or_eq_true sdb with hs2 | hs2
    · have hn2 : nb = true := KB.out hs2
      clear KB
      go_wp2
      go_ret
      exact ⟨rfl, rfl⟩
    · clear KB
      go_wp2
      go_ret
      exact ⟨rfl, rfl⟩

end Go.Proofs.Qxb6614849a
