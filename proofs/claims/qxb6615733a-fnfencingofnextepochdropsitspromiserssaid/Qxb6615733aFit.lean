/- The bounds that the law lays on its input: zzBytes.., zzAdd, zzStatesFit; quorum.Majority. -/
import Derived.Test.Qxb6615733aProg
import Derived.Test.Qxb6615733aParts
import Derived.WalkSpells
import Derived.WalkLawsBesides
import Derived.Outline
import Derived.Deep.DeepCutAuto
namespace Go.Proofs.Qxb6615733a
open Go.RowKit

theorem majority_any (n : Nat) (w : World) (hn : n ≤ 4096) : Calls Try.prog 17 #[.int .i64 n] w fun e w' => e = .returned (.int .i64 ((n : Int) / 2 + 1)) ∧ w = w' := by
  go_enter Try.func17, Try.ntmps17
  go_wp2
  go_ret
  exact ⟨rfl, rfl⟩

/-- An int and a bool come back, nothing turns. -/
def TwoPost (w : World) (e : Ending) (w' : World) : Prop := ∃ (t' : Int) (ok : Bool), e = .returned (.tuple #[.int .i64 t', .bool ok]) ∧ w = w'
theorem add_any (t n : Int) (w : World) : Calls Try.prog 12 #[.int .i64 t, .int .i64 n] w fun e w' => TwoPost w e w' := by
  by_cases h0 : n < 0
  · go_enter Try.func12, Try.ntmps12
    go_wp2
    go_ret2
    exact ⟨_, _, rfl, rfl⟩
  · go_enter Try.func12, Try.ntmps12
    go_wp2
    all_goals
      go_ret2
      exact ⟨_, _, rfl, rfl⟩

set_option maxHeartbeats 400000 in
theorem bytes5_any (p : Option Addr) (L : List ZS) (c : Nat) (E : Int) (w : World) (hn : L.length ≤ maxLen) (hL : Sts w p L) :
    Calls Try.prog 5 #[.slice p L.length c, .int .u64 E] w fun e w' => ∃ r, e = .returned (.bool r) ∧ w = w' := by
  unfold maxLen at hn
  obtain ⟨n, hnL⟩ : ∃ n, n = L.length := ⟨_, rfl⟩
  rw [← hnL] at hn ⊢
  have HN := hide hnL
  clear hnL
  have HL := hide hL
  clear hL
  by_cases h0 : 1048576 < n
  · go_enter Try.func5, Try.ntmps5
    go_wp2
    go_ret
    exact ⟨_, rfl, rfl⟩
  go_enter Try.func5, Try.ntmps5
  go_wp2
  go_loopg [5, 6] n (fun g t i wr => ∃ (k : Nat) (T : Int), k + g = n ∧ i = .int .i64 k ∧ t = .int .i64 T ∧ w = wr)
  case atStart => exact ⟨0, n, by omega, rfl, rfl, rfl⟩
  case round =>
    obtain ⟨k, T, hk, rfl, rfl, rfl⟩ := hrel
    by_cases hlt : k < n
    · obtain ⟨z, b, off, _, rfl, hnine, _, z1, z2, z3⟩ := HL.out.get (k := k) (by rw [← HN.out]; exact hlt)
      obtain ⟨c0, c1, c2, c3, c4, c5, c6, c7, c8⟩ := hnine
      clear c2 c3 c4 c6 c7 c8 HL HN
      unfold maxLen at z1 z2 z3
      go_wp2
      all_goals first
        | (go_ret; exact ⟨_, rfl, rfl⟩)
        | (go_roundg (gk - 1)
           case measure => omega
           case rel => exact ⟨k + 1, _, by omega, by go_num, rfl, rfl⟩)
    · go_wp2
      go_ret
      exact ⟨_, rfl, rfl⟩

set_option maxHeartbeats 400000 in
theorem bytes10_any (p : Option Addr) (L : List ZS) (c : Nat) (E : Int) (w : World) (hn : L.length ≤ maxLen) (hL : Sts w p L) :
    Calls Try.prog 10 #[.slice p L.length c, .int .u64 E] w fun e w' => ∃ r, e = .returned (.bool r) ∧ w = w' := by
  unfold maxLen at hn
  obtain ⟨n, hnL⟩ : ∃ n, n = L.length := ⟨_, rfl⟩
  rw [← hnL] at hn ⊢
  have HN := hide hnL
  clear hnL
  have HL := hide hL
  clear hL
  by_cases h0 : 1048576 < n
  · go_enter Try.func10, Try.ntmps10
    go_wp2
    go_ret
    exact ⟨_, rfl, rfl⟩
  go_enter Try.func10, Try.ntmps10
  go_wp2
  go_loopg [5, 6] n (fun g t i wr => ∃ (k : Nat) (T : Int), k + g = n ∧ i = .int .i64 k ∧ t = .int .i64 T ∧ w = wr)
  case atStart => exact ⟨0, n, by omega, rfl, rfl, rfl⟩
  case round =>
    obtain ⟨k, T, hk, rfl, rfl, rfl⟩ := hrel
    by_cases hlt : k < n
    · obtain ⟨z, b, off, _, rfl, hnine, _, z1, z2, z3⟩ := HL.out.get (k := k) (by rw [← HN.out]; exact hlt)
      obtain ⟨c0, c1, c2, c3, c4, c5, c6, c7, c8⟩ := hnine
      clear c2 c3 c4 c6 c7 c8 HL HN
      unfold maxLen at z1 z2 z3
      go_wp2
      all_goals first
        | (go_ret; exact ⟨_, rfl, rfl⟩)
        | (go_roundg (gk - 1)
           case measure => omega
           case rel => exact ⟨k + 1, _, by omega, by go_num, rfl, rfl⟩)
    · go_wp2
      go_ret
      exact ⟨_, rfl, rfl⟩

/-- No state has more than 65536 ranges. -/
def Fits (L : List ZS) : Prop := ∀ (i : Nat) (z : ZS), L[i]? = some z → z.n ≤ 65536
def FitPost (L : List ZS) (w : World) (e : Ending) (w' : World) : Prop := ∃ (t : Int) (ok : Bool), e = .returned (.tuple #[.int .i64 t, .bool ok]) ∧ w = w' ∧ (ok = true → Fits L)

set_option maxHeartbeats 1000000 in
/-- 'zzStatesFit': where it says yes no state has more than 65536 ranges. -/
theorem fit_any (p : Option Addr) (L : List ZS) (c : Nat) (w : World) (hn : L.length ≤ 4096) (hL : Sts w p L) :
    Calls Try.prog 6 #[.int .i64 0, .slice p L.length c] w fun e w' => FitPost L w e w' := by
  obtain ⟨n, hnL⟩ : ∃ n, n = L.length := ⟨_, rfl⟩
  rw [← hnL] at hn ⊢
  have HN := hide hnL
  clear hnL
  have HL := hide hL
  clear hL
  obtain ⟨G, hG⟩ : ∃ G : Nat → Prop, G = fun k => ∀ (i : Nat) (z : ZS), i < k → L[i]? = some z → z.n ≤ 65536 := ⟨_, rfl⟩
  have hG0 : G 0 := by rw [hG]; intro i z hi; omega
  have hGn : G n → Fits L := by
    rw [hG]; intro h i z hz
    obtain ⟨hi, _⟩ := List.getElem?_eq_some_iff.1 hz
    exact h i z (by rw [HN.out]; exact hi) hz
  have hGs : ∀ (k : Nat) (z : ZS), G k → L[k]? = some z → z.n ≤ 65536 → G (k + 1) := by
    rw [hG]; intro k z h hz hzn i y hi hy
    by_cases hik : i = k
    · subst hik; rw [hz] at hy; cases hy; exact hzn
    · exact h i y (by omega) hy
  have HG0 := hide hG0
  have HGn := hide hGn
  have HGs := hide hGs
  clear hG hG0 hGn hGs
  have HA : Hid (∀ t m wx, Calls Try.prog 12 #[.int .i64 t, .int .i64 m] wx fun e w' => TwoPost wx e w') := add_any
  go_enter Try.func6, Try.ntmps6
  go_wp2
  go_loopg [0, 6] n (fun g t i wr => ∃ (k : Nat) (T : Int), k + g = n ∧ i = .int .i64 k ∧ t = .int .i64 T ∧ G k ∧ w = wr)
  case atStart => exact ⟨0, 0, by omega, rfl, rfl, HG0.out, rfl⟩
  case round =>
    obtain ⟨k, T, hk, rfl, rfl, hg, rfl⟩ := hrel
    have HGk := hide hg
    clear hg HG0
    by_cases hlt : k < n
    · obtain ⟨z, b, off, hz, rfl, hnine, _, z1, z2, z3⟩ := HL.out.get (k := k) (by rw [← HN.out]; exact hlt)
      have HZ := hide hz
      obtain ⟨c0, c1, c2, c3, c4, c5, c6, c7, c8⟩ := hnine
      clear c2 c3 c4 c6 c7 c8 HL HN hz
      unfold maxLen at z1 z2 z3
      go_wp2_with fail
      refine (HA.out _ _ _).mono ?_
      rintro e w1 ⟨t1, ok1, rfl, rfl⟩
      rcases Bool.eq_false_or_eq_true ok1 with hok | hok
      · subst hok
        go_wp2_with fail
        refine (HA.out _ _ _).mono ?_
        rintro e w1 ⟨t2, ok2, rfl, rfl⟩
        rcases Bool.eq_false_or_eq_true ok2 with hok | hok
        · subst hok
          go_wp2_with fail
          refine (HA.out _ _ _).mono ?_
          rintro e w1 ⟨t3, ok3, rfl, rfl⟩
          rcases Bool.eq_false_or_eq_true ok3 with hok | hok
          · subst hok
            by_cases hm : 65536 < z.n
            · clear HGs HGn HGk
              go_wp2
              go_ret2
              exact ⟨_, false, rfl, rfl, fun h => by cases h⟩
            · have HK := hide (HGs.out k z HGk.out HZ.out (by omega))
              go_wp2_with fail
              refine (HA.out _ _ _).mono ?_
              rintro e w1 ⟨t4, ok4, rfl, rfl⟩
              rcases Bool.eq_false_or_eq_true ok4 with hok | hok
              · subst hok
                go_wp2
                go_roundg (gk - 1)
                case measure => omega
                case rel => exact ⟨k + 1, t4, by omega, by go_num, rfl, HK.out, rfl⟩
              · subst hok
                go_wp2
                go_ret2
                exact ⟨_, false, rfl, rfl, fun h => by cases h⟩
          · subst hok
            go_wp2
            go_ret2
            exact ⟨_, false, rfl, rfl, fun h => by cases h⟩
        · subst hok
          go_wp2
          go_ret2
          exact ⟨_, false, rfl, rfl, fun h => by cases h⟩
      · subst hok
        go_wp2
        go_ret2
        exact ⟨_, false, rfl, rfl, fun h => by cases h⟩
    · have ek : Hid (k = n) := by show k = n; omega
      have HF : Hid (Fits L) := by
        have h := HGk.out
        rw [ek.out] at h
        exact HGn.out h
      clear HGs HGn HGk ek HL HN
      go_wp2
      go_ret2
      exact ⟨_, true, rfl, rfl, fun _ => HF.out⟩

end Go.Proofs.Qxb6615733a
