/- The callees' contracts. -/
import Derived.Test.Qxb6615727aProg
import Derived.WalkKit
import Derived.WalkSpells
import Derived.WalkLawsBesides
import Derived.Outline
import Derived.Deep.DeepCutAuto
namespace Go.Proofs.Qxb6615727a
open Go.RowKit

theorem hide {p : Prop} (h : p) : Hid p := h
/-- The spellings of null. -/
def nul (s : ByteArray) : Bool := s.toList.isEmpty || (s.toList == [126]) || (s.toList == [110, 117, 108, 108]) || (s.toList == [78, 117, 108, 108]) || (s.toList == [78, 85, 76, 76])
/-- The merge key. -/
def mrg (s : ByteArray) : Bool := s.toList == [60, 60]
theorem nul_mrg {s : ByteArray} (h : mrg s = true) : nul s = false := by
  have e : s.toList = [60, 60] := by simpa [mrg] using h
  simp [nul, e]
/-- What keyTaken answers. -/
def kt (s : ByteArray) (p : Bool) (n : Int) : Bool := decide (n ≤ 1000) && !mrg s && !(p && nul s)

theorem null_any (s : ByteArray) (w : World) : Calls Try.prog 37 #[.string s] w fun e w' => e = .returned (.bool (nul s)) ∧ w = w' := by
  obtain ⟨r, hr⟩ : ∃ r, r = nul s := ⟨_, rfl⟩
  rw [← hr]
  unfold nul at hr
  have HR := hide hr
  clear hr
  rcases Bool.eq_false_or_eq_true s.toList.isEmpty with e0 | e0
  · have HT : Hid (r = true) := by show _ = _; rw [HR.out, e0]; simp
    clear HR
    go_enter Try.func37, Try.ntmps37
    go_wp2
    go_ret
    exact ⟨by rw [HT.out]; rfl, rfl⟩
  rcases Bool.eq_false_or_eq_true (s.toList == [126]) with e1 | e1
  · have HT : Hid (r = true) := by show _ = _; rw [HR.out, e1]; simp
    clear HR
    go_enter Try.func37, Try.ntmps37
    go_wp2
    go_ret
    exact ⟨by rw [HT.out]; rfl, rfl⟩
  rcases Bool.eq_false_or_eq_true (s.toList == [110, 117, 108, 108]) with e2 | e2
  · have HT : Hid (r = true) := by show _ = _; rw [HR.out, e2]; simp
    clear HR
    go_enter Try.func37, Try.ntmps37
    go_wp2
    go_ret
    exact ⟨by rw [HT.out]; rfl, rfl⟩
  rcases Bool.eq_false_or_eq_true (s.toList == [78, 117, 108, 108]) with e3 | e3
  · have HT : Hid (r = true) := by show _ = _; rw [HR.out, e3]; simp
    clear HR
    go_enter Try.func37, Try.ntmps37
    go_wp2
    go_ret
    exact ⟨by rw [HT.out]; rfl, rfl⟩
  rcases Bool.eq_false_or_eq_true (s.toList == [78, 85, 76, 76]) with e4 | e4
  · have HT : Hid (r = true) := by show _ = _; rw [HR.out, e4]; simp
    clear HR
    go_enter Try.func37, Try.ntmps37
    go_wp2
    go_ret
    exact ⟨by rw [HT.out]; rfl, rfl⟩
  · have HT : Hid (r = false) := by show _ = _; rw [HR.out, e0, e1, e2, e3, e4]; rfl
    clear HR
    go_enter Try.func37, Try.ntmps37
    go_wp2
    go_ret
    exact ⟨by rw [HT.out]; rfl, rfl⟩

theorem yaml_any (s : ByteArray) (w : World) : Calls Try.prog 23 #[.string s] w fun e w' => e = .returned (.bool (nul s)) ∧ w = w' := by
  obtain ⟨r, hr⟩ : ∃ r, r = nul s := ⟨_, rfl⟩
  rw [← hr]
  unfold nul at hr
  have HR := hide hr
  clear hr
  rcases Bool.eq_false_or_eq_true s.toList.isEmpty with e0 | e0
  · have HT : Hid (r = true) := by show _ = _; rw [HR.out, e0]; simp
    clear HR
    go_enter Try.func23, Try.ntmps23
    go_wp2
    go_ret
    exact ⟨by rw [HT.out]; rfl, rfl⟩
  rcases Bool.eq_false_or_eq_true (s.toList == [126]) with e1 | e1
  · have HT : Hid (r = true) := by show _ = _; rw [HR.out, e1]; simp
    clear HR
    go_enter Try.func23, Try.ntmps23
    go_wp2
    go_ret
    exact ⟨by rw [HT.out]; rfl, rfl⟩
  rcases Bool.eq_false_or_eq_true (s.toList == [110, 117, 108, 108]) with e2 | e2
  · have HT : Hid (r = true) := by show _ = _; rw [HR.out, e2]; simp
    clear HR
    go_enter Try.func23, Try.ntmps23
    go_wp2
    go_ret
    exact ⟨by rw [HT.out]; rfl, rfl⟩
  rcases Bool.eq_false_or_eq_true (s.toList == [78, 117, 108, 108]) with e3 | e3
  · have HT : Hid (r = true) := by show _ = _; rw [HR.out, e3]; simp
    clear HR
    go_enter Try.func23, Try.ntmps23
    go_wp2
    go_ret
    exact ⟨by rw [HT.out]; rfl, rfl⟩
  rcases Bool.eq_false_or_eq_true (s.toList == [78, 85, 76, 76]) with e4 | e4
  · have HT : Hid (r = true) := by show _ = _; rw [HR.out, e4]; simp
    clear HR
    go_enter Try.func23, Try.ntmps23
    go_wp2
    go_ret
    exact ⟨by rw [HT.out]; rfl, rfl⟩
  · have HT : Hid (r = false) := by show _ = _; rw [HR.out, e0, e1, e2, e3, e4]; rfl
    clear HR
    go_enter Try.func23, Try.ntmps23
    go_wp2
    go_ret
    exact ⟨by rw [HT.out]; rfl, rfl⟩

theorem taken_any (s : ByteArray) (p : Bool) (n : Int) (w : World) : Calls Try.prog 33 #[.string s, .bool p, .int .i64 n] w fun e w' => e = .returned (.bool (kt s p n)) ∧ w = w' := by
  obtain ⟨z, hz⟩ : ∃ z, z = nul s := ⟨_, rfl⟩
  have HC : Hid (∀ wx, Calls Try.prog 37 #[.string s] wx fun e w' => e = .returned (.bool z) ∧ wx = w') := by
    intro wx; rw [hz]; exact null_any s wx
  obtain ⟨r, hr⟩ : ∃ r, r = kt s p n := ⟨_, rfl⟩
  rw [← hr]
  unfold kt mrg at hr
  rw [← hz] at hr
  have HR := hide hr
  clear hr hz
  by_cases hn : n ≤ 1000
  · have hd : decide (n ≤ 1000) = true := decide_eq_true hn
    rcases Bool.eq_false_or_eq_true (s.toList == [60, 60]) with e0 | e0
    · have HT : Hid (r = false) := by show _ = _; rw [HR.out, e0]; simp
      clear HR hd
      go_enter Try.func33, Try.ntmps33
      go_wp2
      go_ret
      exact ⟨by rw [HT.out]; rfl, rfl⟩
    · cases p with
      | true =>
        have HT : Hid (r = !z) := by show _ = _; rw [HR.out, e0, hd]; simp
        clear HR hd
        go_enter Try.func33, Try.ntmps33
        go_wp2_with (go_at_call 37; refine (HC.out _).mono ?_; rintro e w' ⟨rfl, rfl⟩)
        go_ret
        exact ⟨by rw [HT.out]; rfl, rfl⟩
      | false =>
        have HT : Hid (r = true) := by show _ = _; rw [HR.out, e0, hd]; simp
        clear HR hd
        go_enter Try.func33, Try.ntmps33
        go_wp2_with (go_at_call 37; refine (HC.out _).mono ?_; rintro e w' ⟨rfl, rfl⟩)
        go_ret
        exact ⟨by rw [HT.out]; rfl, rfl⟩
  · have HT : Hid (r = false) := by show _ = _; rw [HR.out, decide_eq_false hn]; rfl
    clear HR
    go_enter Try.func33, Try.ntmps33
    go_wp2
    go_ret
    exact ⟨by rw [HT.out]; rfl, rfl⟩

theorem zztaken_any (s : ByteArray) (p : Bool) (n : Int) (w : World) : Calls Try.prog 21 #[.string s, .bool p, .int .i64 n] w fun e w' => e = .returned (.bool (kt s p n)) ∧ w = w' := by
  obtain ⟨r, hr⟩ : ∃ r, r = kt s p n := ⟨_, rfl⟩
  have HC : Hid (∀ wx, Calls Try.prog 33 #[.string s, .bool p, .int .i64 n] wx fun e w' => e = .returned (.bool r) ∧ wx = w') := by
    intro wx; rw [hr]; exact taken_any s p n wx
  rw [← hr]
  clear hr
  go_enter Try.func21, Try.ntmps21
  go_wp2_with (go_at_call 33; refine (HC.out _).mono ?_; rintro e w' ⟨rfl, rfl⟩)
  go_ret
  exact ⟨rfl, rfl⟩

theorem bytes_len (s : ByteArray) (p : Bool) (n m : Int) (w : World) (hs : s.size ≤ maxLen) :
    Calls Try.prog 20 #[.string s, .bool p, .int .i64 n, .int .i64 m] w fun e w' => e = .returned (.bool (decide (s.size ≤ 1048576))) ∧ w = w' := by
  unfold maxLen at hs
  by_cases c0 : 1048576 < s.size
  · rw [decide_eq_false (by omega)]
    go_enter Try.func20, Try.ntmps20
    go_wp2
    go_ret
    exact ⟨rfl, rfl⟩
  · rw [decide_eq_true (by omega)]
    go_enter Try.func20, Try.ntmps20
    go_wp2
    go_ret
    exact ⟨rfl, rfl⟩
theorem bytes_nul (s : ByteArray) (n : Int) (w : World) (hs : s.size ≤ maxLen) :
    Calls Try.prog 22 #[.string s, .int .i64 n] w fun e w' => e = .returned (.bool (decide (s.size ≤ 1048576))) ∧ w = w' := by
  unfold maxLen at hs
  by_cases c0 : 1048576 < s.size
  · rw [decide_eq_false (by omega)]
    go_enter Try.func22, Try.ntmps22
    go_wp2
    go_ret
    exact ⟨rfl, rfl⟩
  · rw [decide_eq_true (by omega)]
    go_enter Try.func22, Try.ntmps22
    go_wp2
    go_ret
    exact ⟨rfl, rfl⟩

end Go.Proofs.Qxb6615727a
