/- The callees' contracts. -/
import Derived.Test.Qxb6614849aProg
import Derived.Test.Qxb6614849aPlain
import Derived.WalkKit
import Derived.WalkSpells
import Derived.WalkLawsBesides
import Derived.Outline
import Derived.Deep.DeepCutAuto
namespace Go.Proofs.Qxb6614849a
open Go.RowKit

/-- A string's bytes. -/
def bs (s : ByteArray) : List UInt8 := s.data.toList
theorem drop_at (s : ByteArray) (k : Nat) (h : k < s.size) : (bs s).drop k = s[k] :: (bs s).drop (k + 1) := by
  unfold bs
  rw [List.drop_eq_getElem_cons (by simpa using h)]; rfl
theorem drop_end (s : ByteArray) (k : Nat) (h : s.size ≤ k) : (bs s).drop k = [] := by
  unfold bs
  exact List.drop_eq_nil_of_le (by simpa using h)

theorem isdigit_any (c : UInt8) (w : World) : Calls Try.prog 13 #[.int .u8 c.toNat] w fun e w' => e = .returned (.bool (dig c)) ∧ w = w' := by
  by_cases h0 : (48 : Int) ≤ (c.toNat : Int)
  · by_cases h1 : (c.toNat : Int) ≤ 57
    · have hd : dig c = true := by simp [dig]; omega
      rw [hd]; clear hd
      go_enter Try.func13, Try.ntmps13
      go_wp2
      go_ret
      exact ⟨rfl, rfl⟩
    · have hd : dig c = false := by simp [dig]; omega
      rw [hd]; clear hd
      go_enter Try.func13, Try.ntmps13
      go_wp2
      go_ret
      exact ⟨rfl, rfl⟩
  · have hd : dig c = false := by simp [dig]; omega
    rw [hd]; clear hd
    go_enter Try.func13, Try.ntmps13
    go_wp2
    go_ret
    exact ⟨rfl, rfl⟩

theorem zzisdigit_any (c : UInt8) (w : World) : Calls Try.prog 10 #[.int .u8 c.toNat] w fun e w' => e = .returned (.bool (dig c)) ∧ w = w' := by
  by_cases h0 : (48 : Int) ≤ (c.toNat : Int)
  · by_cases h1 : (c.toNat : Int) ≤ 57
    · have hd : dig c = true := by simp [dig]; omega
      rw [hd]; clear hd
      go_enter Try.func10, Try.ntmps10
      go_wp2
      go_ret
      exact ⟨rfl, rfl⟩
    · have hd : dig c = false := by simp [dig]; omega
      rw [hd]; clear hd
      go_enter Try.func10, Try.ntmps10
      go_wp2
      go_ret
      exact ⟨rfl, rfl⟩
  · have hd : dig c = false := by simp [dig]; omega
    rw [hd]; clear hd
    go_enter Try.func10, Try.ntmps10
    go_wp2
    go_ret
    exact ⟨rfl, rfl⟩

set_option maxHeartbeats 400000 in
theorem skip_any (s : ByteArray) (k0 : Nat) (w : World) (hs : s.size ≤ 1048576) (hk0 : k0 ≤ s.size) :
    Calls Try.prog 14 #[.string s, .int .i64 k0] w fun e w' => ∃ k : Nat, k ≤ s.size ∧ (bs s).drop k = rest ((bs s).drop k0) ∧ e = .returned (.int .i64 k) ∧ w = w' := by
  go_enter Try.func14, Try.ntmps14
  go_wp2
  go_loopg [1] (s.size - k0) (fun g i wr => ∃ k : Nat, k + g = s.size ∧ i = .int .i64 k ∧ rest ((bs s).drop k) = rest ((bs s).drop k0) ∧ w = wr)
  case atStart => exact ⟨k0, by omega, rfl, rfl, rfl⟩
  case round =>
    obtain ⟨k, hk, rfl, hrest, rfl⟩ := hrel
    have HR : Hid (rest ((bs s).drop k) = rest ((bs s).drop k0)) := hrest
    clear hrest
    by_cases hlt : k < s.size
    · have hc := isdigit_any s[k]
      have HC : Hid (∀ wx, Calls Try.prog 13 #[.int .u8 s[k].toNat] wx fun e w' => e = .returned (.bool (dig s[k])) ∧ wx = w') := hc
      clear hc
      have hda := drop_at s k hlt
      have HD : Hid ((bs s).drop k = s[k] :: (bs s).drop (k + 1)) := hda
      clear hda
      by_cases hd : dig s[k] = true
      · go_wp2_with (go_at_call 13; refine (HC.out _).mono ?_; rintro e w' ⟨rfl, rfl⟩)
        go_roundg (gk - 1)
        case measure => omega
        case rel => exact ⟨k + 1, by omega, by go_num, by rw [← HR.out, HD.out]; simp [rest, hd], rfl⟩
      · have hd' : dig s[k] = false := by simpa using hd
        clear hd
        go_wp2_with (go_at_call 13; refine (HC.out _).mono ?_; rintro e w' ⟨rfl, rfl⟩)
        go_ret
        exact ⟨k, by omega, by rw [← HR.out, HD.out]; simp [rest, hd'], rfl, rfl⟩
    · have HD : Hid ((bs s).drop k = []) := drop_end s k (by omega)
      go_wp2
      go_ret
      exact ⟨k, by omega, by rw [← HR.out, HD.out]; rfl, rfl, rfl⟩

end Go.Proofs.Qxb6614849a
