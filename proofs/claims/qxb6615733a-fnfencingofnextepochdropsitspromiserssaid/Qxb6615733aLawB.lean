/- The walk of 'FnFencingOfNextEpochDropsItsPromisers'. -/
import Derived.Test.Qxb6615733aLawBParts
import Derived.Deep.RegionHeld3
namespace Go.Proofs.Qxb6615733a
open Go.RowKit

set_option maxHeartbeats 2000000 in
set_option maxRecDepth 4000 in
theorem lawB_core (p : Option Addr) (L NL NH : List ZS) (n ml mh c : Nat) (E : Int) (FL CL FH CH : Bool) (w : World) (hn : n ≤ 4096) (hL : Sts w p L) (hE0 : 0 ≤ E) (hE1 : E < 18446744073709551615)
    (HN : Hid (n = L.length)) (HML : Hid (ml = NL.length)) (HMH : Hid (mh = NH.length)) (HNL : Hid (NL = newer E L)) (HNH : Hid (NH = newer (E + 1) L)) (HFN : Hid (Fits L → Fits NL))
    (K1 : Hid (¬ (FL = true ∧ CL = true))) (K2 : Hid (¬ (FH = true ∧ CH = true))) (K3 : Hid (FH = true → FL = true)) (K4 : Hid (CL = true → CH = true)) (hmn : ml ≤ 4096) (hmn' : mh ≤ 4096)
    (HY : Hid (Calls Try.prog 10 #[.slice p n c, .int .u64 E] w fun e w' => ∃ r, e = .returned (.bool r) ∧ w = w'))
    (HS : Hid (Calls Try.prog 6 #[.int .i64 0, .slice p n c] w fun e w' => FitPost L w e w'))
    (HB8 : Hid (∀ wx, Fits L → Below w.heap.size w wx → Calls Try.prog 8 #[.slice p n c] wx fun e w' => ∃ g, e = .returned (.slice (some ⟨g, 0, none⟩) n n) ∧ Cpy w' (fun k => k < w'.heap.size) (some ⟨g, 0, none⟩) L ∧ Below wx.heap.size wx w'))
    (HF7 : Hid (∀ g wx, Cpy wx (fun k => k < wx.heap.size) (some ⟨g, 0, none⟩) L → Calls Try.prog 7 #[.slice (some ⟨g, 0, none⟩) n n, .int .u64 E] wx fun e w' => ∃ pv cv,
      e = .returned (.agg #[.int .u64 E, .slice (some ⟨g, 0, none⟩) n n, .slice pv ml cv, .bool FL, .bool CL]) ∧ Cpy w' (fun _ => True) pv NL ∧ Below wx.heap.size wx w'))
    (HG7 : Hid (∀ g wx, Cpy wx (fun k => k < wx.heap.size) (some ⟨g, 0, none⟩) L → Calls Try.prog 7 #[.slice (some ⟨g, 0, none⟩) n n, .int .u64 (E + 1)] wx fun e w' => ∃ pv cv,
      e = .returned (.agg #[.int .u64 (E + 1), .slice (some ⟨g, 0, none⟩) n n, .slice pv mh cv, .bool FH, .bool CH]) ∧ Cpy w' (fun _ => True) pv NH ∧ Below wx.heap.size wx w')) :
    Calls Try.prog 4 #[.slice p n c, .int .u64 E] w fun e w' => e = .returned (.bool true) ∧ Below w.heap.size w w' := by
  have HL := hide hL
  clear hL
  have hEb : (E == 18446744073709551615) = false := by simp; omega
  go_enter Try.func4, Try.ntmps4
  go_wp2_with fail
  refine HY.out.mono ?_
  rintro e w' ⟨r, rfl, rfl⟩
  rcases Bool.eq_false_or_eq_true r with hr | hr
  case inr =>
    subst hr
    go_wp2
    go_ret
    exact ⟨rfl, Below.refl _ _⟩
  subst hr
  go_wp2_with fail
  refine HS.out.mono ?_
  rintro e w' ⟨t, ok, rfl, rfl, hok⟩
  rcases Bool.eq_false_or_eq_true ok with hr | hr
  case inr =>
    subst hr
    go_wp2
    go_ret
    exact ⟨rfl, Below.refl _ _⟩
  subst hr
  have HFt : Hid (Fits L) := hok rfl
  clear hok
  go_wp2_with fail
  refine (HB8.out _ HFt.out (Below.refl _ _)).mono ?_
  rintro e w1 ⟨gl, rfl, hc1, hb1⟩
  go_wp2_with fail
  refine (HF7.out gl w1 hc1).mono ?_
  rintro e w2 ⟨pl, cl, rfl, hc2, hb2⟩
  have HB2 : Hid (Below w.heap.size w (w2.alloc (.cells #[.int .u64 E, .slice (some ⟨gl, 0, none⟩) n n, .slice pl ml cl, .bool FL, .bool CL] 29))) := by
    have h12 : Below w.heap.size w w2 := hb1.trans (hb2.mono hb1.size)
    exact h12.alloc h12.size _
  go_wp2_with fail
  refine (HB8.out _ HFt.out HB2.out).mono ?_
  rintro e w3 ⟨gh, rfl, hc3, hb3⟩
  go_wp2_with fail
  refine (HG7.out gh w3 hc3).mono ?_
  rintro e w4 ⟨ph, ch, rfl, hc4, hb4⟩
  have HA0 : Hid (BB w (w4.alloc (.cells #[.int .u64 (E + 1), .slice (some ⟨gh, 0, none⟩) n n, .slice ph mh ch, .bool FH, .bool CH] 29)) w2.heap.size w4.heap.size E (E + 1) p pl ph gl gh n ml mh cl ch FL CL FH CH L NL NH) := by
    have hba : Below w4.heap.size w4 (w4.alloc (.cells #[.int .u64 (E + 1), .slice (some ⟨gh, 0, none⟩) n n, .slice ph mh ch, .bool FH, .bool CH] 29)) := (Below.refl _ _).alloc (Nat.le_refl _) _
    have h34 := hb3.trans (hb4.mono hb3.size)
    have h5 := h34.trans (hba.mono h34.size)
    have hb := HB2.out.trans (h5.mono HB2.out.size)
    have hb2a : Below w2.heap.size w2 (w2.alloc (.cells #[.int .u64 E, .slice (some ⟨gl, 0, none⟩) n n, .slice pl ml cl, .bool FL, .bool CL] 29)) := (Below.refl _ _).alloc (Nat.le_refl _) _
    exact ⟨(Fen.made _ _ _ _ _ _ _ _ _).below h5, Fen.made _ _ _ _ _ _ _ _ _, HL.out.below hb, (hc2.below hb2a).below h5, hc4.below hba, hb⟩
  clear hc1 hb1 hc2 hb2 hc3 hb3 hc4 hb4 HY HS HB8 HF7 HG7 HL HB2
  go_wp2
  obtain ⟨LO, hLO⟩ : ∃ LO, LO = w2.heap.size := ⟨_, rfl⟩
  obtain ⟨HI, hHI⟩ : ∃ HI, HI = w4.heap.size := ⟨_, rfl⟩
  rw [← hLO, ← hHI] at HA0 ⊢
  clear hLO hHI
  go_loopg [9, 10] n (fun gk s9 s10 wr => ∃ i P : Nat, i + gk = n ∧ s10 = .int .i64 i ∧ s9 = .int .i64 P ∧ P = ((L.take i).filter (ans (E + 1))).length ∧ BB w wr LO HI E (E + 1) p pl ph gl gh n ml mh cl ch FL CL FH CH L NL NH)
  case atStart => exact ⟨0, 0, by omega, rfl, rfl, rfl, HA0.out⟩
  case round =>
    obtain ⟨i, P, hk, rfl, rfl, hP, hab⟩ := hrel
    clear HA0
    have HP := hide hP
    have hPi : P ≤ i := by rw [hP]; exact Nat.le_trans (filter_len_le _ _) (by simp; omega)
    have HAB := hide hab
    clear hab hP
    by_cases hlt : i < n
    · obtain ⟨z, b, off, hz, rfl, ⟨a0, a1, a2, a3, a4, a5, a6, a7, a8⟩, harg, _, _, _⟩ := HAB.out.sts.get (k := i) (by rw [← HN.out]; exact hlt)
      have HZ := hide hz
      clear hz harg a0 a1 a2 a3 a5 a6 a7
      rcases Bool.eq_false_or_eq_true z.failed with hfl | hfl
      · have hq : Hid (ans (E + 1) z = false) := by show _ = _; simp [ans, hfl]
        go_wp2
        go_roundg (gk - 1)
        case measure => omega
        case rel => exact ⟨i + 1, P, by omega, by go_num, rfl, by rw [filter_take_no HZ.out hq.out]; exact HP.out, HAB.out⟩
      · rcases Bool.eq_false_or_eq_true (z.prom == E + 1) with hp | hp
        · have hq : Hid (ans (E + 1) z = true) := by show _ = _; simp only [ans, hfl, hp]; rfl
          go_wp2
          go_roundg (gk - 1)
          case measure => omega
          case rel => exact ⟨i + 1, P + 1, by omega, by go_num, by go_num, by rw [filter_take_yes HZ.out hq.out, ← HP.out], HAB.out⟩
        · have hq : Hid (ans (E + 1) z = false) := by show _ = _; simp only [ans, hfl, hp]; rfl
          go_wp2
          go_roundg (gk - 1)
          case measure => omega
          case rel => exact ⟨i + 1, P, by omega, by go_num, rfl, by rw [filter_take_no HZ.out hq.out]; exact HP.out, HAB.out⟩
    · have HP2 : Hid (P = (L.filter (ans (E + 1))).length) := by
        show _ = _
        rw [HP.out, List.take_of_length_le (by rw [← HN.out]; omega)]
      have hPn : P ≤ 4096 := by omega
      clear hk HP hPi
      have HFNL : Hid (Fits NL) := HFN.out HFt.out
      go_wp2
      rename World => wl
      go_loopg [11, 12, 13] ml (fun gk s11 s12 s13 wr => ∃ (k R J : Nat), k + gk = ml ∧ s13 = .int .i64 k ∧ s11 = .int .i64 R ∧ s12 = .int .i64 J ∧ R = ((NL.take k).filter (atP (E + 1))).length ∧ J = ((NL.take k).filter (notP (E + 1))).length ∧ BB w wr LO HI E (E + 1) p pl ph gl gh n ml mh cl ch FL CL FH CH L NL NH)
      case atStart => exact ⟨0, 0, 0, by omega, rfl, rfl, rfl, rfl, rfl, HAB.out⟩
      case round =>
        obtain ⟨k, R, J, hk, rfl, rfl, rfl, hR, hJ, hab⟩ := hrel
        clear HAB
        have HAB := hide hab
        have hRk : R ≤ k := by rw [hR]; exact Nat.le_trans (filter_len_le _ _) (by simp; omega)
        have hJk : J ≤ k := by rw [hJ]; exact Nat.le_trans (filter_len_le _ _) (by simp; omega)
        have HR := hide hR
        have HJ := hide hJ
        have f2 := HAB.out.fl.c2
        clear hab hR hJ
        by_cases hlk : k < ml
        · have hz : ∃ z, NL[k]? = some z := ⟨NL[k]'(by rw [← HML.out]; exact hlk), List.getElem?_eq_getElem _⟩
          obtain ⟨z, hz⟩ := hz
          have HZ := hide hz
          obtain ⟨b2, gz, err, hp2, hn2, herr, hrg, _, _⟩ := HAB.out.low k z hz
          have hfl : z.failed = false := newer_mem (E := E) (L := L) (k := k) (by rw [← HNL.out]; exact hz)
          have hen := herr.nil hfl
          subst hen
          have HFl := hide hfl
          clear hfl
          have HE := hide herr
          have HG := hide hrg
          obtain ⟨d0, d1, d2, d3, d4, d5, d6, d7, d8⟩ := hn2
          have l1 : (k : Int) < (ml : Int) := by omega
          clear hz herr hrg
          subst hp2
          rcases Bool.eq_false_or_eq_true (z.prom == E + 1) with hp | hp
          · have hq : Hid (atP (E + 1) z = true) := hp
            have hq' : Hid (notP (E + 1) z = false) := by show _ = _; simp only [notP, hp]; rfl
            go_wp2
            go_roundg (gk - 1)
            case measure => omega
            case rel => exact ⟨k + 1, R + 1, J, by omega, by go_num, by go_num, rfl, by rw [filter_take_yes HZ.out hq.out, ← HR.out], by rw [filter_take_no HZ.out hq'.out]; exact HJ.out, HAB.out.below ((Below.refl _ _).alloc (Nat.le_refl _) _)⟩
          · have hq : Hid (atP (E + 1) z = false) := hp
            have hq' : Hid (notP (E + 1) z = true) := by show _ = _; simp only [notP, hp]; rfl
            have hNz : Hid (NH[J]? = some z) := by show _ = _; rw [HNH.out, newer_next, ← HNL.out, HJ.out]; exact filter_get HZ.out hq'.out
            have hJm : (J : Int) < (mh : Int) := by have := lt_of_get hNz.out; rw [← HMH.out] at this; omega
            go_upto_region 26 with fail
            obtain ⟨W, hW⟩ : ∃ W, W = wr.alloc (.cells #[.string z.id, .string z.addr, .int .u64 z.first, .int .u64 z.last, .int .u64 z.prom, .slice (some ⟨gz, 0, none⟩) z.n z.n, .int .u64 z.bytes, .bool z.lost, .nilIface] 42) := ⟨_, rfl⟩
            rw [← hW]
            have hbW : Below wr.heap.size wr W := by rw [hW]; exact (Below.refl _ _).alloc (Nat.le_refl _) _
            have hAW := HAB.out.below hbW
            have hnx : Nine' W wr.heap.size 0 z gz .nilIface := by rw [hW]; exact nine'_local wr z gz .nilIface
            clear hW d0 d1 d2 d3 d4 d5 d6 d7 d8 f2
            obtain ⟨b3, gz', err', hp3, hn3, herr', hrg', _, _⟩ := hAW.hig J z hNz.out
            have hen' := herr'.nil HFl.out
            subst hen'
            have HC := hide (samecs_here (z := z) (HFNL.out k z HZ.out) HE.out herr' (HG.out.below hbW) hrg' hAW.fh.c2 hnx hn3)
            have f2 := hAW.fh.c2
            have HAW := hide hAW
            obtain ⟨a0, a1, a2, a3, a4, a5, a6, a7, a8⟩ := hnx
            obtain ⟨d0, d1, d2, d3, d4, d5, d6, d7, d8⟩ := hn3
            have hgd : decide ((mh : Int) ≤ (J : Int)) = false := decide_eq_false (by omega)
            have hgd2 : decide (mh ≤ J) = false := decide_eq_false (by omega)
            subst hp3
            clear hbW hAW herr' hrg' HAB
            go_region_held3 (fun w' => w'.cell? ⟨HI, 2, none⟩ = some (.slice (some ⟨b3, 0, none⟩) mh ch) ∧
                w'.cell? ⟨wr.heap.size, 0, none⟩ = some (.string z.id) ∧ w'.cell? ⟨wr.heap.size, 1, none⟩ = some (.string z.addr) ∧ w'.cell? ⟨wr.heap.size, 2, none⟩ = some (.int .u64 z.first) ∧ w'.cell? ⟨wr.heap.size, 3, none⟩ = some (.int .u64 z.last) ∧ w'.cell? ⟨wr.heap.size, 4, none⟩ = some (.int .u64 z.prom) ∧ w'.cell? ⟨wr.heap.size, 5, none⟩ = some (.slice (some ⟨gz, 0, none⟩) z.n z.n) ∧ w'.cell? ⟨wr.heap.size, 6, none⟩ = some (.int .u64 z.bytes) ∧ w'.cell? ⟨wr.heap.size, 7, none⟩ = some (.bool z.lost) ∧ w'.cell? ⟨wr.heap.size, 8, none⟩ = some .nilIface ∧
                w'.cell? ⟨b3, J * 9, none⟩ = some (.string z.id) ∧ w'.cell? ⟨b3, J * 9 + 1, none⟩ = some (.string z.addr) ∧ w'.cell? ⟨b3, J * 9 + 2, none⟩ = some (.int .u64 z.first) ∧ w'.cell? ⟨b3, J * 9 + 3, none⟩ = some (.int .u64 z.last) ∧ w'.cell? ⟨b3, J * 9 + 4, none⟩ = some (.int .u64 z.prom) ∧ w'.cell? ⟨b3, J * 9 + 5, none⟩ = some (.slice (some ⟨gz', 0, none⟩) z.n z.n) ∧ w'.cell? ⟨b3, J * 9 + 6, none⟩ = some (.int .u64 z.bytes) ∧ w'.cell? ⟨b3, J * 9 + 7, none⟩ = some (.bool z.lost) ∧ w'.cell? ⟨b3, J * 9 + 8, none⟩ = some .nilIface) (first | exact hS | go_keep)
              (first | (go_at_call 11; refine (HC.out _ ?_).mono ?_; (exact (Below.refl _ _).drew); rintro e w' ⟨rfl, hb9, hS⟩))
            have HB9 := hide hb9
            clear hb9 hS HC
            go_wp2
            go_roundg (gk - 1)
            case measure => omega
            case rel => exact ⟨k + 1, R, J + 1, by omega, by go_num, rfl, by go_num, by rw [filter_take_no HZ.out hq.out]; exact HR.out, by rw [filter_take_yes HZ.out hq'.out, ← HJ.out], HAW.out.below HB9.out⟩
        · have ek : NL.take k = NL := List.take_of_length_le (by rw [← HML.out]; omega)
          have eJ : J = mh := by rw [HJ.out, ek, HMH.out, HNH.out, newer_next, ← HNL.out]
          have eR : R = P := by rw [HR.out, ek, HP2.out, HNL.out, promisers]
          subst eJ eR
          have f3 := HAB.out.fl.c3
          have f4 := HAB.out.fl.c4
          have g2 := HAB.out.fh.c2
          have g3 := HAB.out.fh.c3
          have g4 := HAB.out.fh.c4
          have HBe := hide HAB.out.bel
          have key := combos K1.out K2.out K3.out K4.out
          clear ek HR HJ HAB HP2 HFNL HFt HFN K1 K2 K3 K4
          rcases key with ⟨rfl, rfl, rfl, rfl⟩ | ⟨rfl, rfl, rfl, rfl⟩ | ⟨rfl, rfl, rfl, rfl⟩ | ⟨rfl, rfl, rfl, rfl⟩ | ⟨rfl, rfl, rfl, rfl⟩ | ⟨rfl, rfl, rfl, rfl⟩
          all_goals
            go_wp2
            go_ret
            exact ⟨rfl, HBe.out⟩

set_option maxHeartbeats 400000 in
theorem lawB_long (p : Option Addr) (n c : Nat) (E : Int) (w : World) (hn : n ≤ maxLen) (hn4 : ¬ n ≤ 4096) (HY : Hid (Calls Try.prog 10 #[.slice p n c, .int .u64 E] w fun e w' => ∃ r, e = .returned (.bool r) ∧ w = w')) :
    Calls Try.prog 4 #[.slice p n c, .int .u64 E] w fun e w' => e = .returned (.bool true) ∧ Below w.heap.size w w' := by
  unfold maxLen at hn
  have l1 : (4096 : Int) < (n : Int) := by omega
  go_enter Try.func4, Try.ntmps4
  go_wp2_with fail
  refine HY.out.mono ?_
  rintro e w' ⟨r, rfl, rfl⟩
  rcases Bool.eq_false_or_eq_true r with hr | hr
  · subst hr
    go_wp2
    go_ret
    exact ⟨rfl, Below.refl _ _⟩
  · subst hr
    go_wp2
    go_ret
    exact ⟨rfl, Below.refl _ _⟩

set_option maxHeartbeats 400000 in
/-- The greatest epoch: true at once. -/
theorem lawB_max (p : Option Addr) (L : List ZS) (n c : Nat) (E : Int) (w : World) (hn : n ≤ 4096) (hE : E = 18446744073709551615) (HY : Hid (Calls Try.prog 10 #[.slice p n c, .int .u64 E] w fun e w' => ∃ r, e = .returned (.bool r) ∧ w = w'))
    (HS : Hid (Calls Try.prog 6 #[.int .i64 0, .slice p n c] w fun e w' => FitPost L w e w')) :
    Calls Try.prog 4 #[.slice p n c, .int .u64 E] w fun e w' => e = .returned (.bool true) ∧ Below w.heap.size w w' := by
  have hEb : (E == 18446744073709551615) = true := by rw [hE]; rfl
  clear hE
  go_enter Try.func4, Try.ntmps4
  go_wp2_with fail
  refine HY.out.mono ?_
  rintro e w' ⟨r, rfl, rfl⟩
  rcases Bool.eq_false_or_eq_true r with hr | hr
  case inr =>
    subst hr
    go_wp2
    go_ret
    exact ⟨rfl, Below.refl _ _⟩
  subst hr
  go_wp2_with fail
  refine HS.out.mono ?_
  rintro e w' ⟨t, ok, rfl, rfl, hok⟩
  clear hok
  rcases Bool.eq_false_or_eq_true ok with hr | hr
  · subst hr
    go_wp2
    go_ret
    exact ⟨rfl, Below.refl _ _⟩
  · subst hr
    go_wp2
    go_ret
    exact ⟨rfl, Below.refl _ _⟩

theorem fits_newer {E : Int} {L : List ZS} (h : Fits L) : Fits (newer E L) := by
  intro i z hz
  have hm := (List.mem_filter.1 (List.mem_of_getElem? hz)).1
  obtain ⟨j, hj⟩ := List.getElem?_of_mem hm
  exact h j z hj

theorem lawB_any (p : Option Addr) (L : List ZS) (c : Nat) (E : Int) (w : World) (hn : L.length ≤ maxLen) (hE : 0 ≤ E ∧ E ≤ 18446744073709551615) (hL : Sts w p L) :
    Calls Try.prog 4 #[.slice p L.length c, .int .u64 E] w fun e w' => e = .returned (.bool true) ∧ Below w.heap.size w w' := by
  by_cases h4 : L.length ≤ 4096
  · by_cases hmax : E = 18446744073709551615
    · exact lawB_max p L L.length c E w h4 hmax (bytes10_any p L c E w hn hL) (fit_any p L c w h4 hL)
    · have hN := newer_le E L
      have hN' := newer_le (E + 1) L
      have hU := unk_le L
      have hle : (newer (E + 1) L).length ≤ (newer E L).length := by rw [newer_next]; exact filter_len_le _ _
      refine lawB_core p L (newer E L) (newer (E + 1) L) L.length (newer E L).length (newer (E + 1) L).length c E (decide ((L.length : Int) / 2 + 1 ≤ ((newer E L).length : Int))) (decide (((newer E L).length : Int) + (unk L : Int) < (L.length : Int) / 2 + 1))
        (decide ((L.length : Int) / 2 + 1 ≤ ((newer (E + 1) L).length : Int))) (decide (((newer (E + 1) L).length : Int) + (unk L : Int) < (L.length : Int) / 2 + 1)) w h4 hL hE.1 (by omega) rfl rfl rfl rfl rfl fits_newer ?_ ?_ ?_ ?_ (by omega) (by omega)
        (bytes10_any p L c E w hn hL) (fit_any p L c w h4 hL) (fun wx hF hb => build_any p L c wx h4 (hL.below hb) hF) ?_ ?_
      · simp only [decide_eq_true_eq]; show ¬ _; omega
      · simp only [decide_eq_true_eq]; show ¬ _; omega
      · simp only [decide_eq_true_eq]; intro h; omega
      · simp only [decide_eq_true_eq]; intro h; omega
      · intro g wx hc
        refine (zzfence_any wx.heap.size (some ⟨g, 0, none⟩) L L.length E wx h4 (Nat.le_refl _) hc).mono ?_
        rintro e w' ⟨pv, cv, rfl, h1, h2⟩
        exact ⟨pv, cv, rfl, h1.weak, h2⟩
      · intro g wx hc
        refine (zzfence_any wx.heap.size (some ⟨g, 0, none⟩) L L.length (E + 1) wx h4 (Nat.le_refl _) hc).mono ?_
        rintro e w' ⟨pv, cv, rfl, h1, h2⟩
        exact ⟨pv, cv, rfl, h1.weak, h2⟩
  · exact lawB_long p L.length c E w hn h4 (bytes10_any p L c E w hn hL)

end Go.Proofs.Qxb6615733a
