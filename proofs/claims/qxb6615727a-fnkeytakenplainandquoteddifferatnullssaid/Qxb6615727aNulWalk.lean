/- The walk of 'FnKeyTakenPlainAndQuotedDifferAtNulls'. -/
import Derived.Test.Qxb6615727aCalls
namespace Go.Proofs.Qxb6615727a
open Go.RowKit

theorem nul_early (s : ByteArray) (n : Int) (w : World) (hs : s.size ≤ maxLen) (hb : ¬ s.size ≤ 1048576) :
    Calls Try.prog 7 #[.string s, .int .i64 n] w fun e w' => e = .returned (.bool true) ∧ w = w' := by
  have hby := fun wx => bytes_nul s n wx hs
  rw [decide_eq_false hb] at hby
  have HB := hide hby
  clear hby hb hs
  go_enter Try.func7, Try.ntmps7
  go_wp2_with (go_at_call 22; refine (HB.out _).mono ?_; rintro e w' ⟨rfl, rfl⟩)
  go_ret
  exact ⟨rfl, rfl⟩

theorem nul_core (s : ByteArray) (n : Int) (q p z : Bool) (w : World) (hs : s.size ≤ 1048576)
    (HY : Hid (∀ wx, Calls Try.prog 22 #[.string s, .int .i64 n] wx fun e w' => e = .returned (.bool true) ∧ wx = w'))
    (HQ : Hid (∀ wx, Calls Try.prog 21 #[.string s, .bool false, .int .i64 n] wx fun e w' => e = .returned (.bool q) ∧ wx = w'))
    (HP : Hid (∀ wx, Calls Try.prog 21 #[.string s, .bool true, .int .i64 n] wx fun e w' => e = .returned (.bool p) ∧ wx = w'))
    (HZ : Hid (∀ wx, Calls Try.prog 23 #[.string s] wx fun e w' => e = .returned (.bool z) ∧ wx = w'))
    (KP : Hid (p = (q && !z))) (K1 : Hid (n ≤ 1000 → z = true → q = true)) (K2 : Hid (1000 < n → q = false)) :
    Calls Try.prog 7 #[.string s, .int .i64 n] w fun e w' => e = .returned (.bool true) ∧ w = w' := by
  have l0 : ¬ (1048576 : Int) < (s.size : Int) := by omega
  go_enter Try.func7, Try.ntmps7
  go_wp2_with fail
  refine (HY.out _).mono ?_
  rintro e w' ⟨rfl, rfl⟩
  go_wp2_with fail
  refine (HQ.out _).mono ?_
  rintro e w' ⟨rfl, rfl⟩
  go_wp2_with fail
  refine (HP.out _).mono ?_
  rintro e w' ⟨rfl, rfl⟩
  clear HY HQ HP
  by_cases hn : n ≤ 1000
  · rcases Bool.eq_false_or_eq_true z with hz | hz
    · have hq : q = true := K1.out hn hz
      have hp : p = false := by rw [KP.out, hq, hz]; rfl
      clear K1 K2 KP
      go_wp2_with (go_at_call 23; refine (HZ.out _).mono ?_; rintro e w' ⟨rfl, rfl⟩)
      go_ret
      exact ⟨rfl, rfl⟩
    · have hp : p = q := by rw [KP.out, hz]; simp
      clear K1 K2 KP
      subst hp
      rcases Bool.eq_false_or_eq_true p with hq | hq
      · go_wp2_with (go_at_call 23; refine (HZ.out _).mono ?_; rintro e w' ⟨rfl, rfl⟩)
        go_ret
        exact ⟨rfl, rfl⟩
      · go_wp2_with (go_at_call 23; refine (HZ.out _).mono ?_; rintro e w' ⟨rfl, rfl⟩)
        go_ret
        exact ⟨rfl, rfl⟩
  · have hq : q = false := K2.out (by omega)
    have hp : p = false := by rw [KP.out, hq]; rfl
    clear K1 K2 KP
    go_wp2_with (go_at_call 23; refine (HZ.out _).mono ?_; rintro e w' ⟨rfl, rfl⟩)
    go_ret
    exact ⟨rfl, rfl⟩

theorem nul_walk (s : ByteArray) (n : Int) (w : World) (hs : s.size ≤ maxLen) :
    Calls Try.prog 7 #[.string s, .int .i64 n] w fun e w' => e = .returned (.bool true) ∧ w = w' := by
  by_cases hb : s.size ≤ 1048576
  · refine nul_core s n (kt s false n) (kt s true n) (nul s) w hb ?_ (zztaken_any s false n) (zztaken_any s true n) (yaml_any s) ?_ ?_ ?_
    · intro wx
      have := bytes_nul s n wx hs
      rwa [decide_eq_true hb] at this
    · show _ = _
      simp [kt]
    · intro hn hz
      have hm : mrg s = false := by
        rcases Bool.eq_false_or_eq_true (mrg s) with h | h
        · rw [nul_mrg h] at hz; cases hz
        · exact h
      simp [kt, hn, hm]
    · intro hn; simp [kt]; omega
  · exact nul_early s n w hs hb

end Go.Proofs.Qxb6615727a
