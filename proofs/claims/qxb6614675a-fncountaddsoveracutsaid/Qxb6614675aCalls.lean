/- The callees' contracts for 'FnCountAddsOverACut'. -/
import Derived.Test.Qxb6614675aProg
import Derived.WalkKit
import Derived.WalkSpells
import Derived.WalkLawsBesides
import Derived.Outline
namespace Go.Proofs.Qxb6614675a
open Go.RowKit

/-- The bound on the total length (function 6). -/
theorem bytes_any (a0 : Option Addr) (len0 cap0 : Nat) (a1 : Option Addr) (len1 cap1 : Nat) (w : World) (h0 : len0 ≤ maxLen) (h1 : len1 ≤ maxLen) :
    Calls Try.prog 6 #[.slice a0 len0 cap0, .slice a1 len1 cap1] w fun e w' => e = .returned (.bool (decide (len0 + len1 ≤ 1048576))) ∧ w = w' := by
  unfold maxLen at h0 h1
  by_cases c0 : 1048576 < len0
  · have hd : decide (len0 + len1 ≤ 1048576) = false := decide_eq_false (by omega)
    rw [hd]; clear hd
    go_enter Try.func6, Try.ntmps6
    go_wp2
    go_ret
    exact ⟨rfl, rfl⟩
  · by_cases c1 : 1048576 < len1
    · have hd : decide (len0 + len1 ≤ 1048576) = false := decide_eq_false (by omega)
      rw [hd]; clear hd
      go_enter Try.func6, Try.ntmps6
      go_wp2
      go_ret
      exact ⟨rfl, rfl⟩
    · by_cases c2 : 1048576 < len0 + len1
      · have hd : decide (len0 + len1 ≤ 1048576) = false := decide_eq_false (by omega)
        rw [hd]; clear hd
        go_enter Try.func6, Try.ntmps6
        go_wp2
        go_ret
        exact ⟨rfl, rfl⟩
      · have hd : decide (len0 + len1 ≤ 1048576) = true := decide_eq_true (by omega)
        rw [hd]; clear hd
        go_enter Try.func6, Try.ntmps6
        go_wp2
        go_ret
        exact ⟨rfl, rfl⟩


/-- What 'count' answers of so many bounds. -/
def cnt (n : Nat) : Int := if n = 0 then 1 else (n : Int)
theorem cnt_zero {n : Nat} (h : n = 0) : cnt n = 1 := by simp [cnt, h]
theorem cnt_facts (n : Nat) : (n = 0 → cnt n = 1) ∧ (¬ n = 0 → cnt n = (n : Int)) := ⟨fun h => by simp [cnt, h], fun h => by simp [cnt, h]⟩
theorem cnt_pos {n : Nat} (h : ¬ n = 0) : cnt n = (n : Int) := by simp [cnt, h]

/-- 'ZZcount' (function 7): one more than the largest index. -/
theorem count_any (b : Nat) (a : Option Addr) (len cap : Nat) (w : World) (h : len ≤ 1048576) (hc : w.cell? ⟨b, 0, none⟩ = some (.slice a len cap)) :
    Calls Try.prog 7 #[.pointer (some ⟨b, 0, none⟩)] w fun e w' => e = .returned (.int .i64 (cnt len)) ∧ w = w' := by
  by_cases h0 : len = 0
  · rw [cnt_zero h0]
    subst h0
    go_enter Try.func7, Try.ntmps7
    go_wp2
    go_ret
    exact ⟨rfl, rfl⟩
  · rw [cnt_pos h0]
    have h1 : ¬ (len : Int) < 1 := by omega
    go_enter Try.func7, Try.ntmps7
    go_wp2
    go_ret
    exact ⟨rfl, rfl⟩

/-- 'ZZnewSpans' (function 8): a new block whose first cell is the slice. -/
theorem spans_any (a : Option Addr) (len cap : Nat) (w : World) :
    Calls Try.prog 8 #[.slice a len cap] w fun e w' => e = .returned (.pointer (some ⟨w.heap.size, 0, none⟩)) ∧ Below w.heap.size w w' ∧ w'.cell? ⟨w.heap.size, 0, none⟩ = some (.slice a len cap) := by
  go_enter Try.func8, Try.ntmps8
  go_wp2
  go_ret
  refine ⟨rfl, (Below.refl _ _).alloc (Nat.le_refl _) _, ?_⟩
  rw [World.cell?_alloc_at _ _ _ _ rfl]
  simp

/-- Beyond the bound on the total length: true at once. -/
theorem early (a0 : Option Addr) (len0 cap0 : Nat) (a1 : Option Addr) (len1 cap1 : Nat) (w : World) (h0 : len0 ≤ maxLen) (h1 : len1 ≤ maxLen) (hb : ¬ len0 + len1 ≤ 1048576) :
    Calls Try.prog 3 #[.slice a0 len0 cap0, .slice a1 len1 cap1] w fun e w' => e = .returned (.bool true) ∧ Below w.heap.size w w' := by
  have hby := fun wx => bytes_any a0 len0 cap0 a1 len1 cap1 wx h0 h1
  rw [decide_eq_false hb] at hby
  have HB : Hid (∀ wx, Calls Try.prog 6 #[.slice a0 len0 cap0, .slice a1 len1 cap1] wx fun e w' => e = .returned (.bool false) ∧ wx = w') := hby
  clear hby hb h0 h1
  go_enter Try.func3, Try.ntmps3
  go_wp2_with (go_at_call 6; refine (HB.out _).mono ?_; rintro e w' ⟨rfl, rfl⟩)
  go_ret
  exact ⟨rfl, Below.refl _ _⟩

theorem early0 (a0 : Option Addr) (len0 cap0 : Nat) (a1 : Option Addr) (len1 cap1 : Nat) (w : World) (hb : len0 + len1 ≤ 1048576) (h0 : ¬ len0 ≤ 65536) :
    Calls Try.prog 3 #[.slice a0 len0 cap0, .slice a1 len1 cap1] w fun e w' => e = .returned (.bool true) ∧ Below w.heap.size w w' := by
  have hby := fun wx => bytes_any a0 len0 cap0 a1 len1 cap1 wx (by unfold maxLen; omega) (by unfold maxLen; omega)
  rw [decide_eq_true hb] at hby
  have HB : Hid (∀ wx, Calls Try.prog 6 #[.slice a0 len0 cap0, .slice a1 len1 cap1] wx fun e w' => e = .returned (.bool true) ∧ wx = w') := hby
  have l0 : (65536 : Int) < (len0 : Int) := by omega
  clear hby hb h0
  go_enter Try.func3, Try.ntmps3
  go_wp2_with (go_at_call 6; refine (HB.out _).mono ?_; rintro e w' ⟨rfl, rfl⟩)
  go_ret
  exact ⟨rfl, Below.refl _ _⟩

theorem early1 (a0 : Option Addr) (len0 cap0 : Nat) (a1 : Option Addr) (len1 cap1 : Nat) (w : World) (hb : len0 + len1 ≤ 1048576) (h0 : len0 ≤ 65536) (h1 : ¬ len1 ≤ 65536) :
    Calls Try.prog 3 #[.slice a0 len0 cap0, .slice a1 len1 cap1] w fun e w' => e = .returned (.bool true) ∧ Below w.heap.size w w' := by
  have hby := fun wx => bytes_any a0 len0 cap0 a1 len1 cap1 wx (by unfold maxLen; omega) (by unfold maxLen; omega)
  rw [decide_eq_true hb] at hby
  have HB : Hid (∀ wx, Calls Try.prog 6 #[.slice a0 len0 cap0, .slice a1 len1 cap1] wx fun e w' => e = .returned (.bool true) ∧ wx = w') := hby
  have l0 : ¬ (65536 : Int) < (len0 : Int) := by omega
  have l1 : (65536 : Int) < (len1 : Int) := by omega
  clear hby hb h0 h1
  go_enter Try.func3, Try.ntmps3
  go_wp2_with (go_at_call 6; refine (HB.out _).mono ?_; rintro e w' ⟨rfl, rfl⟩)
  go_ret
  exact ⟨rfl, Below.refl _ _⟩

end Go.Proofs.Qxb6614675a
