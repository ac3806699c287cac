/- The walk of 'FnLooksNumericSplitsAtThePoint' within the bounds. -/
import Derived.Test.Qxb6614849aLooks
namespace Go.Proofs.Qxb6614849a
open Go.RowKit

set_option maxHeartbeats 400000 in
theorem pt_core (p q : ByteArray) (np nq hd sdp sdq st W : Bool) (w : World) (h0 : p.size ≤ 65536) (h1 : q.size ≤ 65536)
    (HY : Hid (∀ wx, Calls Try.prog 9 #[.string p, .string q] wx fun e w' => e = .returned (.bool true) ∧ wx = w'))
    (HE : Hid (∀ wx, Calls Try.prog 6 #[.string (p ++ ⟨#[46]⟩ ++ q)] wx fun e w' => e = .returned (.bool W) ∧ wx = w'))
    (HP : Hid (∀ wx, Calls Try.prog 6 #[.string p] wx fun e w' => e = .returned (.bool np) ∧ wx = w'))
    (HQ : Hid (∀ wx, Calls Try.prog 6 #[.string q] wx fun e w' => e = .returned (.bool nq) ∧ wx = w'))
    (HH : Hid (∀ wx, Calls Try.prog 7 #[.string q, .int .u8 46, .int .u8 46] wx fun e w' => e = .returned (.bool hd) ∧ wx = w'))
    (HSP : Hid (∀ wx, Calls Try.prog 8 #[.string p] wx fun e w' => e = .returned (.bool sdp) ∧ wx = w'))
    (HSQ : Hid (∀ wx, Calls Try.prog 8 #[.string q] wx fun e w' => e = .returned (.bool sdq) ∧ wx = w'))
    (HST : Hid (∀ h : 0 < q.size, dig q[0] = st)) (HST0 : Hid (¬ 0 < q.size → st = false))
    (HW : Hid (W = (sdp && st && !hd && nq))) (KP : Hid (sdp = true → np = true)) (KQ : Hid (sdq = true → nq = true)) :
    Calls Try.prog 4 #[.string p, .string q] w fun e w' => e = .returned (.bool true) ∧ w = w' := by
  go_enter Try.func4, Try.ntmps4
  go_wp2_with fail
  refine (HY.out _).mono ?_
  rintro e w' ⟨rfl, rfl⟩
  go_wp2_with fail
  refine (HE.out _).mono ?_
  rintro e w' ⟨rfl, rfl⟩
  go_wp2_with fail
  refine (HP.out _).mono ?_
  rintro e w' ⟨rfl, rfl⟩
  go_wp2_with fail
  refine (HQ.out _).mono ?_
  rintro e w' ⟨rfl, rfl⟩
  clear HY HE HP HQ
  go_upto_region 10 with fail
  go_cut [8] (fun t wx => t = .bool W ∧ w = wx)
  case first =>
    clear HSQ KP KQ
    rcases Bool.eq_false_or_eq_true sdp with hs | hs
    · by_cases hz : 0 < q.size
      · have HC : Hid (∀ wx, Calls Try.prog 10 #[.int .u8 q[0].toNat] wx fun e w' => e = .returned (.bool st) ∧ wx = w') := by
          intro wx; rw [← HST.out hz]; exact zzisdigit_any q[0] wx
        clear HST HST0
        rcases Bool.eq_false_or_eq_true st with ht | ht
        · rcases Bool.eq_false_or_eq_true hd with hh | hh
          · have HT : Hid (W = false) := by show _ = _; rw [HW.out, hh]; simp
            clear HW
            go_wp2_with (first | (go_at_call 7; refine (HH.out _).mono ?_; rintro e w' ⟨rfl, rfl⟩) | (go_at_call 8; refine (HSP.out _).mono ?_; rintro e w' ⟨rfl, rfl⟩) | (go_at_call 10; refine (HC.out _).mono ?_; rintro e w' ⟨rfl, rfl⟩))
            go_meet
            case rel => exact ⟨by rw [HT.out], rfl⟩
          · have HT : Hid (W = nq) := by show _ = _; rw [HW.out, hs, ht, hh]; simp
            clear HW
            go_wp2_with (first | (go_at_call 7; refine (HH.out _).mono ?_; rintro e w' ⟨rfl, rfl⟩) | (go_at_call 8; refine (HSP.out _).mono ?_; rintro e w' ⟨rfl, rfl⟩) | (go_at_call 10; refine (HC.out _).mono ?_; rintro e w' ⟨rfl, rfl⟩))
            go_meet
            case rel => exact ⟨by rw [HT.out], rfl⟩
        · have HT : Hid (W = false) := by show _ = _; rw [HW.out, ht]; simp
          clear HW
          go_wp2_with (first | (go_at_call 7; refine (HH.out _).mono ?_; rintro e w' ⟨rfl, rfl⟩) | (go_at_call 8; refine (HSP.out _).mono ?_; rintro e w' ⟨rfl, rfl⟩) | (go_at_call 10; refine (HC.out _).mono ?_; rintro e w' ⟨rfl, rfl⟩))
          go_meet
          case rel => exact ⟨by rw [HT.out], rfl⟩
      · have HT : Hid (W = false) := by show _ = _; rw [HW.out, HST0.out hz]; simp
        clear HW HST HST0
        go_wp2_with (go_at_call 8; refine (HSP.out _).mono ?_; rintro e w' ⟨rfl, rfl⟩)
        go_meet
        case rel => exact ⟨by rw [HT.out], rfl⟩
    · have HT : Hid (W = false) := by show _ = _; rw [HW.out, hs]; simp
      clear HW HST HST0
      go_wp2_with (go_at_call 8; refine (HSP.out _).mono ?_; rintro e w' ⟨rfl, rfl⟩)
      go_meet
      case rel => exact ⟨by rw [HT.out], rfl⟩
  case rest =>
  obtain ⟨rfl, rfl⟩ := hcut
  clear HH HW HST HST0
  go_wp2_with fail
  refine (HSP.out _).mono ?_
  rintro e w' ⟨rfl, rfl⟩
  clear HSP
  rcases Bool.eq_false_or_eq_true sdp with hs | hs
  · have hn : np = true := KP.out hs
    clear KP
    go_wp2_with fail
    refine (HSQ.out _).mono ?_
    rintro e w' ⟨rfl, rfl⟩
    clear HSQ
    rcases Bool.eq_false_or_eq_true sdq with hs2 | hs2
    · have hn2 : nq = true := KQ.out hs2
      clear KQ
      go_wp2
      go_ret
      exact ⟨rfl, rfl⟩
    · clear KQ
      go_wp2
      go_ret
      exact ⟨rfl, rfl⟩
  · clear KP
    go_wp2_with fail
    refine (HSQ.out _).mono ?_
    rintro e w' ⟨rfl, rfl⟩
    clear HSQ
    rcases Bool.eq_false_or_eq_true sdq with hs2 | hs2
    · have hn2 : nq = true := KQ.out hs2
      clear KQ
      go_wp2
      go_ret
      exact ⟨rfl, rfl⟩
    · clear KQ
      go_wp2
      go_ret
      exact ⟨rfl, rfl⟩

end Go.Proofs.Qxb6614849a
