/- The walk of 'FnKeyTakenLengthIsACutOff'. -/
import Derived.Test.Qxb6615727aCalls
namespace Go.Proofs.Qxb6615727a
open Go.RowKit

theorem len_early (s : ByteArray) (p : Bool) (n m : Int) (w : World) (hs : s.size ≤ maxLen) (hb : ¬ s.size ≤ 1048576) :
    Calls Try.prog 6 #[.string s, .bool p, .int .i64 n, .int .i64 m] w fun e w' => e = .returned (.bool true) ∧ w = w' := by
  have hby := fun wx => bytes_len s p n m wx hs
  rw [decide_eq_false hb] at hby
  have HB := hide hby
  clear hby hb hs
  go_enter Try.func6, Try.ntmps6
  go_wp2_with (go_at_call 20; refine (HB.out _).mono ?_; rintro e w' ⟨rfl, rfl⟩)
  go_ret
  exact ⟨rfl, rfl⟩
theorem len_m (s : ByteArray) (p : Bool) (n m : Int) (w : World) (hs : s.size ≤ 1048576) (hm : 1000 < m) :
    Calls Try.prog 6 #[.string s, .bool p, .int .i64 n, .int .i64 m] w fun e w' => e = .returned (.bool true) ∧ w = w' := by
  have hby := fun wx => bytes_len s p n m wx (by unfold maxLen; omega)
  rw [decide_eq_true hs] at hby
  have HB := hide hby
  have l0 : ¬ (1048576 : Int) < (s.size : Int) := by omega
  clear hby
  go_enter Try.func6, Try.ntmps6
  go_wp2_with (go_at_call 20; refine (HB.out _).mono ?_; rintro e w' ⟨rfl, rfl⟩)
  go_ret
  exact ⟨rfl, rfl⟩

theorem len_core (s : ByteArray) (p : Bool) (n m : Int) (A B : Bool) (w : World) (hs : s.size ≤ 1048576) (hm : m ≤ 1000)
    (HY : Hid (∀ wx, Calls Try.prog 20 #[.string s, .bool p, .int .i64 n, .int .i64 m] wx fun e w' => e = .returned (.bool true) ∧ wx = w'))
    (HA : Hid (∀ wx, Calls Try.prog 21 #[.string s, .bool p, .int .i64 n] wx fun e w' => e = .returned (.bool A) ∧ wx = w'))
    (HB : Hid (∀ wx, Calls Try.prog 21 #[.string s, .bool p, .int .i64 m] wx fun e w' => e = .returned (.bool B) ∧ wx = w'))
    (HQ : Hid (∀ wx, Calls Try.prog 21 #[.string s, .bool false, .int .i64 m] wx fun e w' => e = .returned (.bool (!(s.toList == [60, 60]))) ∧ wx = w'))
    (K1 : Hid (n ≤ 1000 → A = B)) (K2 : Hid (1000 < n → A = false)) :
    Calls Try.prog 6 #[.string s, .bool p, .int .i64 n, .int .i64 m] w fun e w' => e = .returned (.bool true) ∧ w = w' := by
  have l0 : ¬ (1048576 : Int) < (s.size : Int) := by omega
  have l1 : ¬ (1000 : Int) < m := by omega
  go_enter Try.func6, Try.ntmps6
  go_wp2_with fail
  refine (HY.out _).mono ?_
  rintro e w' ⟨rfl, rfl⟩
  go_wp2_with fail
  refine (HA.out _).mono ?_
  rintro e w' ⟨rfl, rfl⟩
  go_wp2_with fail
  refine (HB.out _).mono ?_
  rintro e w' ⟨rfl, rfl⟩
  go_wp2_with fail
  refine (HQ.out _).mono ?_
  rintro e w' ⟨rfl, rfl⟩
  clear HY HA HB HQ
  by_cases hn : n ≤ 1000
  · have hA : A = B := K1.out hn
    subst hA
    clear K1 K2
    rcases Bool.eq_false_or_eq_true (s.toList == [60, 60]) with e0 | e0
    · go_wp2
      go_ret
      exact ⟨rfl, rfl⟩
    · go_wp2
      go_ret
      exact ⟨rfl, rfl⟩
  · have hA : A = false := K2.out (by omega)
    subst hA
    clear K1 K2
    rcases Bool.eq_false_or_eq_true (s.toList == [60, 60]) with e0 | e0
    · go_wp2
      go_ret
      exact ⟨rfl, rfl⟩
    · go_wp2
      go_ret
      exact ⟨rfl, rfl⟩

theorem len_any (s : ByteArray) (p : Bool) (n m : Int) (w : World) (hs : s.size ≤ maxLen) :
    Calls Try.prog 6 #[.string s, .bool p, .int .i64 n, .int .i64 m] w fun e w' => e = .returned (.bool true) ∧ w = w' := by
  by_cases hb : s.size ≤ 1048576
  · by_cases hm : m ≤ 1000
    · refine len_core s p n m (kt s p n) (kt s p m) w hb hm ?_ (zztaken_any s p n) (zztaken_any s p m) ?_ ?_ ?_
      · intro wx
        have := bytes_len s p n m wx hs
        rwa [decide_eq_true hb] at this
      · intro wx
        have := zztaken_any s false m wx
        have e : kt s false m = !(s.toList == [60, 60]) := by simp [kt, mrg, hm]
        rwa [e] at this
      · intro hn; simp [kt, hn, hm]
      · intro hn; simp [kt]; omega
    · exact len_m s p n m w hb (by omega)
  · exact len_early s p n m w hs hb

end Go.Proofs.Qxb6615727a
