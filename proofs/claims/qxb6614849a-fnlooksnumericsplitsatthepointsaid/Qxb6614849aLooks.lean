/- looksNumeric; ZZLooksNumeric; the bounds on lengths. -/
import Derived.Test.Qxb6614849aScan
namespace Go.Proofs.Qxb6614849a
open Go.RowKit

theorem drop_nil_iff (s : ByteArray) (k : Nat) (h : k ≤ s.size) : (bs s).drop k = [] ↔ k = s.size := by
  constructor
  · intro hn
    have := (List.drop_eq_nil_iff (l := bs s) (i := k)).1 hn
    have e : (bs s).length = s.size := by unfold bs; simp
    omega
  · rintro rfl; exact drop_end s _ (Nat.le_refl _)

theorem looks_any (s : ByteArray) (w : World) (hs : s.size ≤ 1048576) :
    Calls Try.prog 11 #[.string s] w fun e w' => e = .returned (.bool (ln (bs s))) ∧ w = w' := by
  obtain ⟨h, hh⟩ : ∃ h, h = ln (bs s) := ⟨_, rfl⟩
  rw [← hh]
  have HH : Hid (h = ln (bs s)) := hh
  clear hh
  go_enter Try.func11, Try.ntmps11
  go_wp2_with fail
  refine (scan_any s _ hs).mono ?_
  rintro e w' ⟨k, ok, ⟨hk, hsc⟩, rfl, rfl⟩
  rcases hsc with ⟨rfl, hsc⟩ | ⟨rfl, hsc⟩
  · by_cases hq : k = s.size
    · have HT : Hid (h = true) := by show _ = _; rw [HH.out, ln, hsc, (drop_nil_iff s k hk).2 hq]; rfl
      have hq' : ((k : Int) == (s.size : Int)) = true := by simp; omega
      clear hsc hq
      go_wp2
      go_ret
      exact ⟨by rw [HT.out]; rfl, rfl⟩
    · have HT : Hid (h = false) := by
        show _ = _
        rw [HH.out, ln, hsc]
        cases hd : (bs s).drop k with
        | nil => exact absurd ((drop_nil_iff s k hk).1 hd) hq
        | cons c r => rfl
      have hq' : ((k : Int) == (s.size : Int)) = false := by simp; omega
      clear hsc hq
      go_wp2
      go_ret
      exact ⟨by rw [HT.out]; rfl, rfl⟩
  · have HT : Hid (h = false) := by show _ = _; rw [HH.out, ln, hsc]; rfl
    clear hsc
    go_wp2
    go_ret
    exact ⟨by rw [HT.out]; rfl, rfl⟩

theorem zzlooks_any (s : ByteArray) (w : World) (hs : s.size ≤ 1048576) :
    Calls Try.prog 6 #[.string s] w fun e w' => e = .returned (.bool (ln (bs s))) ∧ w = w' := by
  obtain ⟨h, hh⟩ : ∃ h, h = ln (bs s) := ⟨_, rfl⟩
  have HC : Hid (∀ wx, Calls Try.prog 11 #[.string s] wx fun e w' => e = .returned (.bool h) ∧ wx = w') := by
    intro wx; rw [hh]; exact looks_any s wx hs
  rw [← hh]
  clear hh
  go_enter Try.func6, Try.ntmps6
  go_wp2_with (go_at_call 11; refine (HC.out _).mono ?_; rintro e w' ⟨rfl, rfl⟩)
  go_ret
  exact ⟨rfl, rfl⟩

/-- The bound on the total length (functions 5, 9). -/
theorem bytes_exp (a b : ByteArray) (w : World) (ha : a.size ≤ maxLen) (hb : b.size ≤ maxLen) :
    Calls Try.prog 5 #[.string a, .string b] w fun e w' => e = .returned (.bool (decide (a.size + b.size ≤ 1048576))) ∧ w = w' := by
  unfold maxLen at ha hb
  by_cases c0 : 1048576 < a.size
  · rw [decide_eq_false (by omega)]
    go_enter Try.func5, Try.ntmps5
    go_wp2
    go_ret
    exact ⟨rfl, rfl⟩
  · by_cases c1 : 1048576 < b.size
    · rw [decide_eq_false (by omega)]
      go_enter Try.func5, Try.ntmps5
      go_wp2
      go_ret
      exact ⟨rfl, rfl⟩
    · by_cases c2 : 1048576 < a.size + b.size
      · rw [decide_eq_false (by omega)]
        go_enter Try.func5, Try.ntmps5
        go_wp2
        go_ret
        exact ⟨rfl, rfl⟩
      · rw [decide_eq_true (by omega)]
        go_enter Try.func5, Try.ntmps5
        go_wp2
        go_ret
        exact ⟨rfl, rfl⟩
theorem bytes_pt (a b : ByteArray) (w : World) (ha : a.size ≤ maxLen) (hb : b.size ≤ maxLen) :
    Calls Try.prog 9 #[.string a, .string b] w fun e w' => e = .returned (.bool (decide (a.size + b.size ≤ 1048576))) ∧ w = w' := by
  unfold maxLen at ha hb
  by_cases c0 : 1048576 < a.size
  · rw [decide_eq_false (by omega)]
    go_enter Try.func9, Try.ntmps9
    go_wp2
    go_ret
    exact ⟨rfl, rfl⟩
  · by_cases c1 : 1048576 < b.size
    · rw [decide_eq_false (by omega)]
      go_enter Try.func9, Try.ntmps9
      go_wp2
      go_ret
      exact ⟨rfl, rfl⟩
    · by_cases c2 : 1048576 < a.size + b.size
      · rw [decide_eq_false (by omega)]
        go_enter Try.func9, Try.ntmps9
        go_wp2
        go_ret
        exact ⟨rfl, rfl⟩
      · rw [decide_eq_true (by omega)]
        go_enter Try.func9, Try.ntmps9
        go_wp2
        go_ret
        exact ⟨rfl, rfl⟩

end Go.Proofs.Qxb6614849a
