/- scanNumber, read loosely from the string's head; looksNumeric; ZZLooksNumeric. -/
import Derived.Test.Qxb6614849aCalls2
namespace Go.Proofs.Qxb6614849a
open Go.RowKit

theorem hide {p : Prop} (h : p) : Hid p := h

theorem sgn_end {s : ByteArray} {k : Nat} (h : ¬ k < s.size) : (bs s).drop k = sgn ((bs s).drop k) := by
  rw [drop_end s k (by omega)]; rfl
theorem sgn_at_yes {s : ByteArray} {k : Nat} (h : k < s.size) (hc : isSgn s[k] = true) : (bs s).drop (k + 1) = sgn ((bs s).drop k) := by
  rw [drop_at s k h]; simp [sgn, hc]
theorem sgn_at_no {s : ByteArray} {k : Nat} (h : k < s.size) (hc : isSgn s[k] = false) : (bs s).drop k = sgn ((bs s).drop k) := by
  rw [drop_at s k h]; simp [sgn, hc]

theorem skip_at (s : ByteArray) (k0 : Nat) (i : Int) (hi : i = k0) (w : World) (hs : s.size ≤ 1048576) (hk0 : k0 ≤ s.size) :
    Calls Try.prog 14 #[.string s, .int .i64 i] w fun e w' => ∃ k : Nat, k ≤ s.size ∧ Hid ((bs s).drop k = rest ((bs s).drop k0)) ∧ e = .returned (.int .i64 k) ∧ w = w' := by
  subst hi
  exact skip_any s k0 w hs hk0

theorem starts_yes {s : ByteArray} {k : Nat} (h : k < s.size) : startsD ((bs s).drop k) = dig s[k] := by rw [drop_at s k h]; rfl
theorem starts_end {s : ByteArray} {k : Nat} (h : ¬ k < s.size) : startsD ((bs s).drop k) = false := by rw [drop_end s k (by omega)]; rfl
theorem pt_end {s : ByteArray} {k : Nat} (h : ¬ k < s.size) : pt ((bs s).drop k) = some ((bs s).drop k) := by rw [drop_end s k (by omega)]; rfl
theorem pt_other {s : ByteArray} {k : Nat} (h : k < s.size) (hc : (s[k] == 46) = false) : pt ((bs s).drop k) = some ((bs s).drop k) := by
  rw [drop_at s k h]; simp [pt, by simpa using hc]
theorem pt_point {s : ByteArray} {k : Nat} (h : k < s.size) (hc : (s[k] == 46) = true) : pt ((bs s).drop k) = if startsD ((bs s).drop (k + 1)) = true then some (rest ((bs s).drop (k + 1))) else none := by
  rw [drop_at s k h]; simp only [pt]; rw [if_pos (by simpa using hc)]
def exTail (r : List UInt8) : Option (List UInt8) := if startsD (sgn r) = true then some (rest (sgn r)) else none
theorem ex_end {s : ByteArray} {k : Nat} (h : ¬ k < s.size) : ex ((bs s).drop k) = some ((bs s).drop k) := by rw [drop_end s k (by omega)]; rfl
theorem ex_other {s : ByteArray} {k : Nat} (h : k < s.size) (hc : isExp s[k] = false) : ex ((bs s).drop k) = some ((bs s).drop k) := by
  rw [drop_at s k h]; simp [ex, hc]
theorem ex_letter {s : ByteArray} {k : Nat} (h : k < s.size) (hc : isExp s[k] = true) : ex ((bs s).drop k) = exTail ((bs s).drop (k + 1)) := by
  rw [drop_at s k h]; simp [ex, hc, exTail]

/-- What the answer of scanNumber says. -/
def Says (s : ByteArray) (k : Nat) (ok : Bool) : Prop := k ≤ s.size ∧ ((ok = true ∧ scan (bs s) = some ((bs s).drop k)) ∨ (ok = false ∧ scan (bs s) = none))

set_option maxHeartbeats 1000000 in
set_option maxRecDepth 4000 in
theorem scan_any (s : ByteArray) (w : World) (hs : s.size ≤ 1048576) :
    Calls Try.prog 12 #[.string s, .int .i64 0, .bool true] w fun e w' => ∃ (k : Nat) (ok : Bool), Says s k ok ∧ e = .returned (.tuple #[.int .i64 k, .bool ok]) ∧ w = w' := by
  go_enter Try.func12, Try.ntmps12
  -- the sign
  go_upto_region 1 with fail
  go_cut [26] (fun t wx => ∃ b : Bool, t = .bool b ∧ w = wx ∧ ((b = true ∧ 0 < s.size ∧ (bs s).drop 1 = sgn (bs s)) ∨ (b = false ∧ (bs s).drop 0 = sgn (bs s))))
  case first =>
    as_aux_lemma =>
    by_cases hlt : 0 < s.size
    · have e1 := beq_toNat s[0] 43 43 rfl
      have e2 := beq_toNat s[0] 45 45 rfl
      by_cases h2 : (s[0] == 45) = true
      · rw [h2] at e2
        clear e1
        have HS : Hid ((bs s).drop 1 = sgn (bs s)) := sgn_yes hlt (by simp only [isSgn, h2, Bool.or_true])
        go_wp2
        go_meet
        case rel => exact ⟨true, rfl, rfl, .inl ⟨rfl, hlt, HS.out⟩⟩
      · have h2' : (s[0] == 45) = false := by simpa using h2
        rw [h2'] at e2
        by_cases h1 : (s[0] == 43) = true
        · rw [h1] at e1
          have HS : Hid ((bs s).drop 1 = sgn (bs s)) := sgn_yes hlt (by simp only [isSgn, h1]; rfl)
          go_wp2
          go_meet
          case rel => exact ⟨true, rfl, rfl, .inl ⟨rfl, hlt, HS.out⟩⟩
        · have h1' : (s[0] == 43) = false := by simpa using h1
          rw [h1'] at e1
          have HS : Hid ((bs s).drop 0 = sgn (bs s)) := sgn_no hlt (by simp only [isSgn, h1', h2']; rfl)
          go_wp2
          go_meet
          case rel => exact ⟨false, rfl, rfl, .inr ⟨rfl, HS.out⟩⟩
    · have HS : Hid ((bs s).drop 0 = sgn (bs s)) := sgn_zero hlt
      go_wp2
      go_meet
      case rel => exact ⟨false, rfl, rfl, .inr ⟨rfl, HS.out⟩⟩
  case rest =>
  obtain ⟨b, rfl, rfl, hb⟩ := hcut
  have HB : Hid ((b = true ∧ 0 < s.size ∧ (bs s).drop 1 = sgn (bs s)) ∨ (b = false ∧ (bs s).drop 0 = sgn (bs s))) := hb
  clear hb
  go_upto_if 26 with fail
  go_cut [1] (fun t wx => ∃ k : Nat, k ≤ s.size ∧ t = .int .i64 k ∧ (bs s).drop k = sgn (bs s) ∧ w = wx)
  case first =>
    as_aux_lemma =>
    rcases HB.out with ⟨rfl, hlt, hs1⟩ | ⟨rfl, hs0⟩
    · have HS : Hid ((bs s).drop 1 = sgn (bs s)) := hs1
      clear hs1 HB
      go_wp2
      go_meet
      case rel => exact ⟨1, by omega, rfl, HS.out, rfl⟩
    · have HS : Hid ((bs s).drop 0 = sgn (bs s)) := hs0
      clear hs0 HB
      go_wp2
      go_meet
      case rel => exact ⟨0, by omega, rfl, HS.out, rfl⟩
  case rest =>
  obtain ⟨k1, hk1, rfl, hsg, rfl⟩ := hcut
  have HS : Hid ((bs s).drop k1 = sgn (bs s)) := hsg
  clear hsg HB
  -- the switch: its first case never holds when read loosely
  go_upto_region 4 with fail
  go_cut [30] (fun t wx => t = .bool false ∧ w = wx)
  case first =>
    as_aux_lemma =>
    by_cases hlt : k1 < s.size
    · by_cases h1 : (((s[k1]).toNat : Int) == 48) = true
      · go_wp2
        go_meet
        case rel => exact ⟨rfl, rfl⟩
      · have h1' : (((s[k1]).toNat : Int) == 48) = false := by simpa using h1
        clear h1
        go_wp2
        go_meet
        case rel => exact ⟨rfl, rfl⟩
    · go_wp2
      go_meet
      case rel => exact ⟨rfl, rfl⟩
  case rest =>
  obtain ⟨rfl, rfl⟩ := hcut
  go_upto_region 6 with fail
  go_cut [47] (fun t wx => ∃ b : Bool, t = .bool b ∧ w = wx ∧ b = startsD (sgn (bs s)))
  case first =>
    as_aux_lemma =>
    by_cases hlt : k1 < s.size
    · have HC : Hid (∀ wx, Calls Try.prog 13 #[.int .u8 s[k1].toNat] wx fun e w' => e = .returned (.bool (dig s[k1])) ∧ wx = w') := isdigit_any s[k1]
      have HQ : Hid (dig s[k1] = startsD (sgn (bs s))) := by show _ = _; rw [← HS.out, starts_yes hlt]
      go_wp2_with (go_at_call 13; refine (HC.out _).mono ?_; rintro e w' ⟨rfl, rfl⟩)
      go_meet
      case rel => exact ⟨dig s[k1], rfl, rfl, HQ.out⟩
    · have HQ : Hid (false = startsD (sgn (bs s))) := by show _ = _; rw [← HS.out, starts_end hlt]
      go_wp2
      go_meet
      case rel => exact ⟨false, rfl, rfl, HQ.out⟩
  case rest =>
  obtain ⟨b, rfl, rfl, hb⟩ := hcut
  have HB : Hid (b = startsD (sgn (bs s))) := hb
  clear hb
  go_upto_if 47 with fail
  rcases Bool.eq_false_or_eq_true b with hb | hb
  case inr =>
    subst hb
    have HT : Hid (startsD (sgn (bs s)) = false) := HB.out.symm
    clear HB
    go_wp2
    go_ret2
    exact ⟨k1, false, ⟨hk1, .inr ⟨rfl, by simp [scan, HT.out]⟩⟩, rfl, rfl⟩
  subst hb
  have HT : Hid (startsD (sgn (bs s)) = true) := HB.out.symm
  clear HB
  go_upto_region 8 with (go_at_call 14; refine (skip_at s k1 _ rfl _ hs hk1).mono ?_; rintro e w' ⟨k2, hk2, hd2, rfl, rfl⟩)
  have HR : Hid ((bs s).drop k2 = rest (sgn (bs s))) := by show _ = _; rw [hd2.out, HS.out]
  clear hd2 HS
  -- the point
  go_cut [70] (fun t wx => ∃ b : Bool, t = .bool b ∧ w = wx ∧ ((b = true ∧ k2 < s.size ∧ pt ((bs s).drop k2) = if startsD ((bs s).drop (k2 + 1)) = true then some (rest ((bs s).drop (k2 + 1))) else none) ∨ (b = false ∧ pt ((bs s).drop k2) = some ((bs s).drop k2))))
  case first =>
    as_aux_lemma =>
    by_cases hlt : k2 < s.size
    · have e1 := beq_toNat s[k2] 46 46 rfl
      by_cases h1 : (s[k2] == 46) = true
      · rw [h1] at e1
        have HP := hide (pt_point hlt h1)
        go_wp2
        go_meet
        case rel => exact ⟨true, rfl, rfl, .inl ⟨rfl, hlt, HP.out⟩⟩
      · have h1' : (s[k2] == 46) = false := by simpa using h1
        rw [h1'] at e1
        have HP := hide (pt_other hlt h1')
        clear h1 h1'
        go_wp2
        go_meet
        case rel => exact ⟨false, rfl, rfl, .inr ⟨rfl, HP.out⟩⟩
    · have HP := hide (pt_end hlt)
      go_wp2
      go_meet
      case rel => exact ⟨false, rfl, rfl, .inr ⟨rfl, HP.out⟩⟩
  case rest =>
  obtain ⟨b, rfl, rfl, hb⟩ := hcut
  have HB := hide hb
  clear hb
  go_upto_if 70 with fail
  go_cut [1] (fun t wx => ∃ k : Nat, k ≤ s.size ∧ t = .int .i64 k ∧ pt ((bs s).drop k2) = some ((bs s).drop k) ∧ w = wx)
  case first =>
    as_aux_lemma =>
    rcases HB.out with ⟨rfl, hlt, hp⟩ | ⟨rfl, hp⟩
    · have HP := hide hp
      clear hp HB
      go_upto_region 10 with fail
      go_cut [83] (fun t wx => ∃ b : Bool, t = .bool b ∧ w = wx ∧ ((b = true ∧ pt ((bs s).drop k2) = none) ∨ (b = false ∧ pt ((bs s).drop k2) = some (rest ((bs s).drop (k2 + 1))))))
      case first =>
        as_aux_lemma =>
        by_cases hlt1 : k2 + 1 < s.size
        · have HC : Hid (∀ wx, Calls Try.prog 13 #[.int .u8 s[k2 + 1].toNat] wx fun e w' => e = .returned (.bool (dig s[k2 + 1])) ∧ wx = w') := isdigit_any s[k2 + 1]
          have hne : ((k2 : Int) + 1 == (s.size : Int)) = false := by simp; omega
          by_cases hd : dig s[k2 + 1] = true
          · have HQ : Hid (pt ((bs s).drop k2) = some (rest ((bs s).drop (k2 + 1)))) := by show _ = _; rw [HP.out, if_pos (by rw [starts_yes hlt1]; exact hd)]
            go_wp2_with (go_at_call 13; refine (HC.out _).mono ?_; rintro e w' ⟨rfl, rfl⟩)
            go_meet
            case rel => exact ⟨false, rfl, rfl, .inr ⟨rfl, HQ.out⟩⟩
          · have hd' : dig s[k2 + 1] = false := by simpa using hd
            have HQ : Hid (pt ((bs s).drop k2) = none) := by show _ = _; rw [HP.out, if_neg (by rw [starts_yes hlt1]; exact hd)]
            clear hd
            go_wp2_with (go_at_call 13; refine (HC.out _).mono ?_; rintro e w' ⟨rfl, rfl⟩)
            go_meet
            case rel => exact ⟨true, rfl, rfl, .inl ⟨rfl, HQ.out⟩⟩
        · have hq : ((k2 : Int) + 1 == (s.size : Int)) = true := by simp; omega
          have HQ : Hid (pt ((bs s).drop k2) = none) := by show _ = _; rw [HP.out, if_neg (by rw [starts_end hlt1]; simp)]
          go_wp2
          go_meet
          case rel => exact ⟨true, rfl, rfl, .inl ⟨rfl, HQ.out⟩⟩
      case rest =>
      obtain ⟨b, rfl, rfl, hb⟩ := hcut
      clear HP
      rcases hb with ⟨rfl, hp⟩ | ⟨rfl, hp⟩
      · have HP := hide hp
        clear hp
        go_wp2
        go_ret2
        exact ⟨k2 + 1, false, ⟨by omega, .inr ⟨rfl, by simp only [scan, HT.out, if_true, ← HR.out, HP.out]; rfl⟩⟩, by simp, rfl⟩
      · have HP := hide hp
        clear hp
        go_wp2_with (go_at_call 14; refine (skip_at s (k2 + 1) _ (by omega) _ hs (by omega)).mono ?_; rintro e w' ⟨k3, hk3, hd3, rfl, rfl⟩)
        go_meet
        case rel => exact ⟨k3, hk3, rfl, by rw [hd3.out, HP.out], rfl⟩
    · have HP := hide hp
      clear hp HB
      go_wp2
      go_meet
      case rel => exact ⟨k2, hk2, rfl, HP.out, rfl⟩
  case rest =>
  obtain ⟨k3, hk3, rfl, hp, rfl⟩ := hcut
  have HP : Hid (pt (rest (sgn (bs s))) = some ((bs s).drop k3)) := by show _ = _; rw [← HR.out, hp]
  clear hp HB HR
  -- the exponent
  go_upto_region 13 with fail
  go_cut [103] (fun t wx => ∃ b : Bool, t = .bool b ∧ w = wx ∧ ((b = true ∧ k3 < s.size ∧ ex ((bs s).drop k3) = exTail ((bs s).drop (k3 + 1))) ∨ (b = false ∧ ex ((bs s).drop k3) = some ((bs s).drop k3))))
  case first =>
    as_aux_lemma =>
    by_cases hlt : k3 < s.size
    · have e1 := beq_toNat s[k3] 101 101 rfl
      have e2 := beq_toNat s[k3] 69 69 rfl
      by_cases h1 : (s[k3] == 101) = true
      · rw [h1] at e1
        have HX := hide (ex_letter hlt (by simp only [isExp, h1]; rfl))
        clear e2
        go_wp2
        go_meet
        case rel => exact ⟨true, rfl, rfl, .inl ⟨rfl, hlt, HX.out⟩⟩
      · have h1' : (s[k3] == 101) = false := by simpa using h1
        rw [h1'] at e1
        by_cases h2 : (s[k3] == 69) = true
        · rw [h2] at e2
          have HX := hide (ex_letter hlt (by simp only [isExp, h2, Bool.or_true]))
          clear h1 h1'
          go_wp2
          go_meet
          case rel => exact ⟨true, rfl, rfl, .inl ⟨rfl, hlt, HX.out⟩⟩
        · have h2' : (s[k3] == 69) = false := by simpa using h2
          rw [h2'] at e2
          have HX := hide (ex_other hlt (by simp only [isExp, h1', h2']; rfl))
          clear h1 h1' h2 h2'
          go_wp2
          go_meet
          case rel => exact ⟨false, rfl, rfl, .inr ⟨rfl, HX.out⟩⟩
    · have HX := hide (ex_end hlt)
      go_wp2
      go_meet
      case rel => exact ⟨false, rfl, rfl, .inr ⟨rfl, HX.out⟩⟩
  case rest =>
  obtain ⟨b, rfl, rfl, hb⟩ := hcut
  have HB := hide hb
  clear hb
  go_upto_if 103 with fail
  go_cut [1] (fun t wx => ∃ k : Nat, k ≤ s.size ∧ t = .int .i64 k ∧ ex ((bs s).drop k3) = some ((bs s).drop k) ∧ w = wx)
  case first =>
    as_aux_lemma =>
    rcases HB.out with ⟨rfl, hlt, hx⟩ | ⟨rfl, hx⟩
    · have HX := hide hx
      clear hx HB
      go_upto_region 15 with fail
      go_cut [121] (fun t wx => ∃ b : Bool, t = .bool b ∧ w = wx ∧ ((b = true ∧ k3 + 1 < s.size ∧ (bs s).drop (k3 + 1 + 1) = sgn ((bs s).drop (k3 + 1))) ∨ (b = false ∧ (bs s).drop (k3 + 1) = sgn ((bs s).drop (k3 + 1)))))
      case first =>
        as_aux_lemma =>
        by_cases hlt1 : k3 + 1 < s.size
        · have e1 := beq_toNat s[k3 + 1] 43 43 rfl
          have e2 := beq_toNat s[k3 + 1] 45 45 rfl
          by_cases h1 : (s[k3 + 1] == 43) = true
          · rw [h1] at e1
            clear e2
            have HG := hide (sgn_at_yes hlt1 (by simp only [isSgn, h1]; rfl))
            go_wp2
            go_meet
            case rel => exact ⟨true, rfl, rfl, .inl ⟨rfl, hlt1, HG.out⟩⟩
          · have h1' : (s[k3 + 1] == 43) = false := by simpa using h1
            rw [h1'] at e1
            by_cases h2 : (s[k3 + 1] == 45) = true
            · rw [h2] at e2
              have HG := hide (sgn_at_yes hlt1 (by simp only [isSgn, h2, Bool.or_true]))
              clear h1 h1'
              go_wp2
              go_meet
              case rel => exact ⟨true, rfl, rfl, .inl ⟨rfl, hlt1, HG.out⟩⟩
            · have h2' : (s[k3 + 1] == 45) = false := by simpa using h2
              rw [h2'] at e2
              have HG := hide (sgn_at_no hlt1 (by simp only [isSgn, h1', h2']; rfl))
              clear h1 h1' h2 h2'
              go_wp2
              go_meet
              case rel => exact ⟨false, rfl, rfl, .inr ⟨rfl, HG.out⟩⟩
        · have HG := hide (sgn_end hlt1)
          go_wp2
          go_meet
          case rel => exact ⟨false, rfl, rfl, .inr ⟨rfl, HG.out⟩⟩
      case rest =>
      obtain ⟨b, rfl, rfl, hb⟩ := hcut
      have HB := hide hb
      clear hb
      go_upto_if 121 with fail
      go_cut [1] (fun t wx => ∃ k : Nat, k ≤ s.size ∧ t = .int .i64 k ∧ (bs s).drop k = sgn ((bs s).drop (k3 + 1)) ∧ w = wx)
      case first =>
        as_aux_lemma =>
        rcases HB.out with ⟨rfl, hlt1, hg⟩ | ⟨rfl, hg⟩
        · have HG := hide hg
          clear hg HB
          go_wp2
          go_meet
          case rel => exact ⟨k3 + 1 + 1, by omega, by go_num, HG.out, rfl⟩
        · have HG := hide hg
          clear hg HB
          go_wp2
          go_meet
          case rel => exact ⟨k3 + 1, by omega, by go_num, HG.out, rfl⟩
      case rest =>
      obtain ⟨k4, hk4, rfl, hg, rfl⟩ := hcut
      have HX4 : Hid (ex ((bs s).drop k3) = if startsD ((bs s).drop k4) = true then some (rest ((bs s).drop k4)) else none) := by show _ = _; rw [HX.out, hg]; rfl
      clear hg HX HB
      go_upto_region 17 with fail
      go_cut [134] (fun t wx => ∃ b : Bool, t = .bool b ∧ w = wx ∧ ((b = true ∧ ex ((bs s).drop k3) = none) ∨ (b = false ∧ ex ((bs s).drop k3) = some (rest ((bs s).drop k4)))))
      case first =>
        as_aux_lemma =>
        by_cases hlt1 : k4 < s.size
        · have HC : Hid (∀ wx, Calls Try.prog 13 #[.int .u8 s[k4].toNat] wx fun e w' => e = .returned (.bool (dig s[k4])) ∧ wx = w') := isdigit_any s[k4]
          have hne : ((k4 : Int) == (s.size : Int)) = false := by simp; omega
          by_cases hd : dig s[k4] = true
          · have HQ : Hid (ex ((bs s).drop k3) = some (rest ((bs s).drop k4))) := by show _ = _; rw [HX4.out, if_pos (by rw [starts_yes hlt1]; exact hd)]
            go_wp2_with (go_at_call 13; refine (HC.out _).mono ?_; rintro e w' ⟨rfl, rfl⟩)
            go_meet
            case rel => exact ⟨false, rfl, rfl, .inr ⟨rfl, HQ.out⟩⟩
          · have hd' : dig s[k4] = false := by simpa using hd
            have HQ : Hid (ex ((bs s).drop k3) = none) := by show _ = _; rw [HX4.out, if_neg (by rw [starts_yes hlt1]; exact hd)]
            clear hd
            go_wp2_with (go_at_call 13; refine (HC.out _).mono ?_; rintro e w' ⟨rfl, rfl⟩)
            go_meet
            case rel => exact ⟨true, rfl, rfl, .inl ⟨rfl, HQ.out⟩⟩
        · have hq : ((k4 : Int) == (s.size : Int)) = true := by simp; omega
          have HQ : Hid (ex ((bs s).drop k3) = none) := by show _ = _; rw [HX4.out, if_neg (by rw [starts_end hlt1]; simp)]
          go_wp2
          go_meet
          case rel => exact ⟨true, rfl, rfl, .inl ⟨rfl, HQ.out⟩⟩
      case rest =>
      obtain ⟨b, rfl, rfl, hb⟩ := hcut
      clear HX4
      rcases hb with ⟨rfl, hx⟩ | ⟨rfl, hx⟩
      · have HX := hide hx
        clear hx
        go_wp2
        go_ret2
        exact ⟨k4, false, ⟨hk4, .inr ⟨rfl, by simp only [scan, HT.out, if_true, HP.out]; exact HX.out⟩⟩, rfl, rfl⟩
      · have HX := hide hx
        clear hx
        go_wp2_with (go_at_call 14; refine (skip_at s k4 _ rfl _ hs hk4).mono ?_; rintro e w' ⟨k5, hk5, hd5, rfl, rfl⟩)
        go_meet
        case rel => exact ⟨k5, hk5, rfl, by rw [hd5.out, HX.out], rfl⟩
    · have HX := hide hx
      clear hx HB
      go_wp2
      go_meet
      case rel => exact ⟨k3, hk3, rfl, HX.out, rfl⟩
  case rest =>
  obtain ⟨k5, hk5, rfl, hx, rfl⟩ := hcut
  have HX := hide hx
  clear hx HB
  go_wp2
  go_ret2
  exact ⟨k5, true, ⟨hk5, .inl ⟨rfl, by simp only [scan, HT.out, if_true, HP.out]; exact HX.out⟩⟩, rfl, rfl⟩

end Go.Proofs.Qxb6614849a
