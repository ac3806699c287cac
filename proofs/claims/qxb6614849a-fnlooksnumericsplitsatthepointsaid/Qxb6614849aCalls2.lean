/- zzHasByte, zzSignedDigits. -/
import Derived.Test.Qxb6614849aCalls
namespace Go.Proofs.Qxb6614849a
open Go.RowKit

theorem beq_toNat (c x : UInt8) (X : Int) (hX : X = x.toNat) : ((c.toNat : Int) == X) = (c == x) := by
  subst hX
  rw [Bool.eq_iff_iff]
  simp only [beq_iff_eq]
  constructor
  · intro h; exact UInt8.toNat.inj (by omega)
  · rintro rfl; rfl

theorem rest_nil_startsD {l : List UInt8} (h : rest l = []) (hl : l ≠ []) : startsD l = true := by
  cases l with
  | nil => exact absurd rfl hl
  | cons c r =>
    simp only [rest, List.dropWhile_cons] at h
    split at h
    · assumption
    · cases h

set_option maxHeartbeats 400000 in
theorem hasbyte_any (s : ByteArray) (x y : UInt8) (X Y : Int) (hX : X = x.toNat) (hY : Y = y.toNat) (w : World) (hs : s.size ≤ 1048576) :
    Calls Try.prog 7 #[.string s, .int .u8 X, .int .u8 Y] w fun e w' => e = .returned (.bool (hasB x y (bs s))) ∧ w = w' := by
  have HX : Hid (X = x.toNat) := hX
  have HY : Hid (Y = y.toNat) := hY
  clear hX hY
  obtain ⟨h, hh⟩ : ∃ h, h = hasB x y (bs s) := ⟨_, rfl⟩
  rw [← hh]
  have HH : Hid (h = hasB x y (bs s)) := hh
  clear hh
  go_enter Try.func7, Try.ntmps7
  go_wp2
  go_loopg [7] s.size (fun g i wr => ∃ k : Nat, k + g = s.size ∧ i = .int .i64 k ∧ hasB x y ((bs s).drop k) = h ∧ w = wr)
  case atStart => exact ⟨0, by omega, rfl, HH.out.symm, rfl⟩
  case round =>
    obtain ⟨k, hk, rfl, hb, rfl⟩ := hrel
    have HB : Hid (hasB x y ((bs s).drop k) = h) := hb
    clear hb
    by_cases hlt : k < s.size
    · have HD : Hid ((bs s).drop k = s[k] :: (bs s).drop (k + 1)) := drop_at s k hlt
      have eX := beq_toNat s[k] x X HX.out
      have eY := beq_toNat s[k] y Y HY.out
      by_cases h1 : (s[k] == x) = true
      · rw [h1] at eX
        have HT : Hid (h = true) := by show h = true; rw [← HB.out, HD.out]; simp [hasB, h1]
        clear eY
        go_wp2
        go_ret
        exact ⟨by rw [HT.out]; rfl, rfl⟩
      · have h1' : (s[k] == x) = false := by simpa using h1
        rw [h1'] at eX
        by_cases h2 : (s[k] == y) = true
        · rw [h2] at eY
          have HT : Hid (h = true) := by show h = true; rw [← HB.out, HD.out]; simp [hasB, h2]
          go_wp2
          go_ret
          exact ⟨by rw [HT.out]; rfl, rfl⟩
        · have h2' : (s[k] == y) = false := by simpa using h2
          rw [h2'] at eY
          have HN : Hid (hasB x y ((bs s).drop (k + 1)) = h) := by
            rw [← HB.out, HD.out]; simp only [hasB, List.any_cons, h1', h2']; rfl
          clear h1 h2 h1' h2'
          go_wp2
          go_roundg (gk - 1)
          case measure => omega
          case rel => exact ⟨k + 1, by omega, by go_num, HN.out, rfl⟩
    · have HT : Hid (h = false) := by rw [← HB.out, drop_end s k (by omega)]; rfl
      go_wp2
      go_ret
      exact ⟨by rw [HT.out]; rfl, rfl⟩

theorem sgn_zero {s : ByteArray} (h : ¬ 0 < s.size) : (bs s).drop 0 = sgn (bs s) := by
  have : bs s = [] := by simpa using drop_end s 0 (by omega)
  rw [this]; rfl
theorem sgn_yes {s : ByteArray} (h : 0 < s.size) (hc : isSgn s[0] = true) : (bs s).drop 1 = sgn (bs s) := by
  have : bs s = s[0] :: (bs s).drop 1 := by simpa using drop_at s 0 h
  rw [this]; simp [sgn, hc]
theorem sgn_no {s : ByteArray} (h : 0 < s.size) (hc : isSgn s[0] = false) : (bs s).drop 0 = sgn (bs s) := by
  have : bs s = s[0] :: (bs s).drop 1 := by simpa using drop_at s 0 h
  rw [this]; simp [sgn, hc]

set_option maxHeartbeats 400000 in
theorem signed_any (s : ByteArray) (w : World) (hs : s.size ≤ 1048576) :
    Calls Try.prog 8 #[.string s] w fun e w' => e = .returned (.bool (sd (bs s))) ∧ w = w' := by
  obtain ⟨h, hh⟩ : ∃ h, h = sd (bs s) := ⟨_, rfl⟩
  rw [← hh]
  have HH : Hid (h = sd (bs s)) := hh
  clear hh
  go_enter Try.func8, Try.ntmps8
  go_upto_region 2 with fail
  go_cut [19] (fun t wx => ∃ b : Bool, t = .bool b ∧ w = wx ∧ ((b = true ∧ 0 < s.size ∧ (bs s).drop 1 = sgn (bs s)) ∨ (b = false ∧ (bs s).drop 0 = sgn (bs s))))
  case first =>
    by_cases hlt : 0 < s.size
    · have e1 := beq_toNat s[0] 43 43 rfl
      have e2 := beq_toNat s[0] 45 45 rfl
      by_cases h1 : (s[0] == 43) = true
      · rw [h1] at e1
        clear e2
        have HS : Hid ((bs s).drop 1 = sgn (bs s)) := sgn_yes hlt (by simp only [isSgn, h1]; rfl)
        go_wp2
        go_meet
        case rel => exact ⟨true, rfl, rfl, .inl ⟨rfl, hlt, HS.out⟩⟩
      · have h1' : (s[0] == 43) = false := by simpa using h1
        rw [h1'] at e1
        by_cases h2 : (s[0] == 45) = true
        · rw [h2] at e2
          have HS : Hid ((bs s).drop 1 = sgn (bs s)) := sgn_yes hlt (by simp only [isSgn, h2, Bool.or_true])
          go_wp2
          go_meet
          case rel => exact ⟨true, rfl, rfl, .inl ⟨rfl, hlt, HS.out⟩⟩
        · have h2' : (s[0] == 45) = false := by simpa using h2
          rw [h2'] at e2
          have HS : Hid ((bs s).drop 0 = sgn (bs s)) := sgn_no hlt (by simp only [isSgn, h1', h2']; rfl)
          go_wp2
          go_meet
          case rel => exact ⟨false, rfl, rfl, .inr ⟨rfl, HS.out⟩⟩
    · have HS : Hid ((bs s).drop 0 = sgn (bs s)) := sgn_zero hlt
      go_wp2
      go_meet
      case rel => exact ⟨false, rfl, rfl, .inr ⟨rfl, HS.out⟩⟩
  case rest =>
  obtain ⟨b, rfl, rfl, hb⟩ := hcut
  have HB : Hid ((b = true ∧ 0 < s.size ∧ (bs s).drop 1 = sgn (bs s)) ∨ (b = false ∧ (bs s).drop 0 = sgn (bs s))) := hb
  clear hb
  go_upto_if 19 with fail
  go_cut [3] (fun t wx => ∃ k : Nat, k ≤ s.size ∧ t = .int .i64 k ∧ (bs s).drop k = sgn (bs s) ∧ w = wx)
  case first =>
    rcases HB.out with ⟨rfl, hlt, hs1⟩ | ⟨rfl, hs0⟩
    · have HS : Hid ((bs s).drop 1 = sgn (bs s)) := hs1
      clear hs1 HB
      go_wp2
      go_meet
      case rel => exact ⟨1, by omega, rfl, HS.out, rfl⟩
    · have HS : Hid ((bs s).drop 0 = sgn (bs s)) := hs0
      clear hs0 HB
      go_wp2
      go_meet
      case rel => exact ⟨0, by omega, rfl, HS.out, rfl⟩
  case rest =>
  obtain ⟨k0, hk0, rfl, hsg, rfl⟩ := hcut
  have HS : Hid ((bs s).drop k0 = sgn (bs s)) := hsg
  clear hsg
  by_cases hlt : k0 < s.size
  · have HL : Hid (sgn (bs s) ≠ []) := by rw [← HS.out, drop_at s k0 hlt]; intro h; cases h
    have hne : ((k0 : Int) == (s.size : Int)) = false := by simp; omega
    go_wp2
    go_loopg [3] (s.size - k0) (fun g i wr => ∃ k : Nat, k + g = s.size ∧ i = .int .i64 k ∧ rest ((bs s).drop k) = rest (sgn (bs s)) ∧ w = wr)
    case atStart => exact ⟨k0, by omega, rfl, by rw [HS.out], rfl⟩
    case round =>
      obtain ⟨k, hk, rfl, hb, rfl⟩ := hrel
      have HB : Hid (rest ((bs s).drop k) = rest (sgn (bs s))) := hb
      clear hb
      by_cases hkl : k < s.size
      · have HD : Hid ((bs s).drop k = s[k] :: (bs s).drop (k + 1)) := drop_at s k hkl
        have HC : Hid (∀ wx, Calls Try.prog 10 #[.int .u8 s[k].toNat] wx fun e w' => e = .returned (.bool (dig s[k])) ∧ wx = w') := zzisdigit_any s[k]
        by_cases hd : dig s[k] = true
        · have HN : Hid (rest ((bs s).drop (k + 1)) = rest (sgn (bs s))) := by
            show _ = _
            rw [← HB.out, HD.out]; simp [rest, hd]
          go_wp2_with (go_at_call 10; refine (HC.out _).mono ?_; rintro e w' ⟨rfl, rfl⟩)
          go_roundg (gk - 1)
          case measure => omega
          case rel => exact ⟨k + 1, by omega, by go_num, HN.out, rfl⟩
        · have hd' : dig s[k] = false := by simpa using hd
          have HT : Hid (h = false) := by
            show h = false
            rw [HH.out]
            simp only [sd, ← HB.out, HD.out]
            simp [rest, hd']
          clear hd
          go_wp2_with (go_at_call 10; refine (HC.out _).mono ?_; rintro e w' ⟨rfl, rfl⟩)
          go_ret
          exact ⟨by rw [HT.out]; rfl, rfl⟩
      · have HT : Hid (h = true) := by
          have h1 : rest (sgn (bs s)) = [] := by rw [← HB.out, drop_end s k (by omega)]; rfl
          rw [HH.out]
          exact (sd_iff _).2 ⟨rest_nil_startsD h1 HL.out, h1⟩
        go_wp2
        go_ret
        exact ⟨by rw [HT.out]; rfl, rfl⟩
  · have heq : (k0 : Int) = (s.size : Int) := by omega
    have HT : Hid (h = false) := by
      rw [HH.out]
      simp only [sd, ← HS.out, drop_end s k0 (by omega)]
      rfl
    have hq : ((k0 : Int) == (s.size : Int)) = true := by simpa using heq
    clear heq
    go_wp2
    go_ret
    exact ⟨by rw [HT.out]; rfl, rfl⟩

end Go.Proofs.Qxb6614849a
