/- The walk of 'FnFencingOfCountsMajorities'. -/
import Derived.Test.Qxb6615733aLawParts
import Derived.Deep.RegionHeld3
namespace Go.Proofs.Qxb6615733a
open Go.RowKit

set_option maxHeartbeats 2000000 in
set_option maxRecDepth 4000 in
theorem lawA_core (p : Option Addr) (L N : List ZS) (n m U c : Nat) (E : Int) (F C : Bool) (w : World) (hn : n ≤ 4096) (hL : Sts w p L)
    (HN : Hid (n = L.length)) (HM : Hid (m = N.length)) (HNw : Hid (N = newer E L)) (HU : Hid (U = unk L))
    (KF : Hid (F = decide ((n : Int) < 2 * (m : Int)))) (KC : Hid (C = decide (2 * ((m : Int) + (U : Int)) ≤ (n : Int)))) (hmn : m ≤ 4096) (hUn : U ≤ 4096)
    (HY : Hid (Calls Try.prog 5 #[.slice p n c, .int .u64 E] w fun e w' => ∃ r, e = .returned (.bool r) ∧ w = w'))
    (HS : Hid (Calls Try.prog 6 #[.int .i64 0, .slice p n c] w fun e w' => FitPost L w e w'))
    (HB8 : Hid (Fits L → Calls Try.prog 8 #[.slice p n c] w fun e w' => ∃ g, e = .returned (.slice (some ⟨g, 0, none⟩) n n) ∧ Cpy w' (fun k => k < w'.heap.size) (some ⟨g, 0, none⟩) L ∧ Below w.heap.size w w'))
    (HF7 : Hid (∀ g wx, Cpy wx (fun k => k < wx.heap.size) (some ⟨g, 0, none⟩) L → Calls Try.prog 7 #[.slice (some ⟨g, 0, none⟩) n n, .int .u64 E] wx fun e w' => ∃ pv cv,
      e = .returned (.agg #[.int .u64 E, .slice (some ⟨g, 0, none⟩) n n, .slice pv m cv, .bool F, .bool C]) ∧ Cpy w' (fun _ => True) pv N ∧ Below wx.heap.size wx w')) :
    Calls Try.prog 3 #[.slice p n c, .int .u64 E] w fun e w' => e = .returned (.bool true) ∧ Below w.heap.size w w' := by
  have HL := hide hL
  clear hL
  go_enter Try.func3, Try.ntmps3
  go_wp2_with fail
  refine HY.out.mono ?_
  rintro e w' ⟨r, rfl, rfl⟩
  rcases Bool.eq_false_or_eq_true r with hr | hr
  case inr =>
    subst hr
    go_wp2
    go_ret
    exact ⟨rfl, Below.refl _ _⟩
  subst hr
  go_wp2_with fail
  refine HS.out.mono ?_
  rintro e w' ⟨t, ok, rfl, rfl, hok⟩
  rcases Bool.eq_false_or_eq_true ok with hr | hr
  case inr =>
    subst hr
    go_wp2
    go_ret
    exact ⟨rfl, Below.refl _ _⟩
  subst hr
  have HFt : Hid (Fits L) := hok rfl
  clear hok
  go_wp2_with fail
  refine (HB8.out HFt.out).mono ?_
  rintro e w1 ⟨g, rfl, hc1, hb1⟩
  go_wp2_with fail
  refine (HF7.out g w1 hc1).mono ?_
  rintro e w2 ⟨pv, cv, rfl, hc2, hb2⟩
  have HA0 : Hid (AB w (w2.alloc (.cells #[.int .u64 E, .slice (some ⟨g, 0, none⟩) n n, .slice pv m cv, .bool F, .bool C] 29)) w2.heap.size E p pv g n m cv F C L N) := by
    have hba : Below w2.heap.size w2 (w2.alloc (.cells #[.int .u64 E, .slice (some ⟨g, 0, none⟩) n n, .slice pv m cv, .bool F, .bool C] 29)) := (Below.refl _ _).alloc (Nat.le_refl _) _
    have h12 : Below w.heap.size w w2 := hb1.trans (hb2.mono hb1.size)
    have h3 : Below w.heap.size w (w2.alloc (.cells #[.int .u64 E, .slice (some ⟨g, 0, none⟩) n n, .slice pv m cv, .bool F, .bool C] 29)) := h12.trans (hba.mono h12.size)
    exact ⟨Fen.made _ _ _ _ _ _ _ _ _, HL.out.below h3, ((hc1.weak).below hb2).below hba, hc2.below hba, h3⟩
  clear hc1 hb1 hc2 hb2 HY HS HB8 HF7 HL
  go_wp2
  obtain ⟨FB, hFB⟩ : ∃ FB, FB = w2.heap.size := ⟨_, rfl⟩
  rw [← hFB] at HA0 ⊢
  clear hFB
  go_loopg [9] n (fun gk i wr => ∃ k : Nat, k + gk = n ∧ i = .int .i64 k ∧ AB w wr FB E p pv g n m cv F C L N)
  case atStart => exact ⟨0, by omega, rfl, HA0.out⟩
  case round =>
    obtain ⟨k, hk, rfl, hab⟩ := hrel
    clear HA0
    have HAB := hide hab
    clear hab
    by_cases hlt : k < n
    · obtain ⟨z, b, off, hz, rfl, hn1, harg, _, _, _⟩ := HAB.out.sts.get (k := k) (by rw [← HN.out]; exact hlt)
      obtain ⟨b', gz, err, hp, hn2, herr, hrg, _, _⟩ := HAB.out.cst k z hz
      cases hp
      have HC := hide (sameas_here (z := z) rfl (HFt.out k z hz) herr hrg harg HAB.out.fen.c1 hn1 hn2)
      have f1 := HAB.out.fen.c1
      obtain ⟨a0, a1, a2, a3, a4, a5, a6, a7, a8⟩ := hn1
      obtain ⟨d0, d1, d2, d3, d4, d5, d6, d7, d8⟩ := hn2
      have l1 : (k : Int) < (n : Int) := by omega
      clear hz harg herr hrg
      go_wp2
      go_region_held3 (fun w' => w'.cell? ⟨FB, 1, none⟩ = some (.slice (some ⟨g, 0, none⟩) n n) ∧
          w'.cell? ⟨b, off + k * 9, none⟩ = some (.string z.id) ∧ w'.cell? ⟨b, off + k * 9 + 1, none⟩ = some (.string z.addr) ∧ w'.cell? ⟨b, off + k * 9 + 2, none⟩ = some (.int .u64 z.first) ∧ w'.cell? ⟨b, off + k * 9 + 3, none⟩ = some (.int .u64 z.last) ∧ w'.cell? ⟨b, off + k * 9 + 4, none⟩ = some (.int .u64 z.prom) ∧ w'.cell? ⟨b, off + k * 9 + 5, none⟩ = some (.slice z.ep z.n z.cap) ∧ w'.cell? ⟨b, off + k * 9 + 6, none⟩ = some (.int .u64 z.bytes) ∧ w'.cell? ⟨b, off + k * 9 + 7, none⟩ = some (.bool z.lost) ∧ w'.cell? ⟨b, off + k * 9 + 8, none⟩ = some (.bool z.failed) ∧
          w'.cell? ⟨g, k * 9, none⟩ = some (.string z.id) ∧ w'.cell? ⟨g, k * 9 + 1, none⟩ = some (.string z.addr) ∧ w'.cell? ⟨g, k * 9 + 2, none⟩ = some (.int .u64 z.first) ∧ w'.cell? ⟨g, k * 9 + 3, none⟩ = some (.int .u64 z.last) ∧ w'.cell? ⟨g, k * 9 + 4, none⟩ = some (.int .u64 z.prom) ∧ w'.cell? ⟨g, k * 9 + 5, none⟩ = some (.slice (some ⟨gz, 0, none⟩) z.n z.n) ∧ w'.cell? ⟨g, k * 9 + 6, none⟩ = some (.int .u64 z.bytes) ∧ w'.cell? ⟨g, k * 9 + 7, none⟩ = some (.bool z.lost) ∧ w'.cell? ⟨g, k * 9 + 8, none⟩ = some err) (first | exact hS | go_keep)
        (first | (go_at_call 9; refine (HC.out _ ?_).mono ?_; (exact (Below.refl _ _).drew); rintro e w' ⟨rfl, hb9, hS⟩))
      have HB9 := hide hb9
      clear hb9 hS HC
      go_wp2
      go_roundg (gk - 1)
      case measure => omega
      case rel => exact ⟨k + 1, by omega, by go_num, HAB.out.below HB9.out⟩
    · clear hk
      go_wp2
      rename World => wl
      go_loopg [10, 11, 12] n (fun gk s10 s11 s12 wr => ∃ (i K V : Nat), i + gk = n ∧ s12 = .int .i64 i ∧ s10 = .int .i64 K ∧ s11 = .int .i64 V ∧ K = (newer E (L.take i)).length ∧ V = unk (L.take i) ∧ AB w wr FB E p pv g n m cv F C L N)
      case atStart => exact ⟨0, 0, 0, by omega, rfl, rfl, rfl, rfl, rfl, HAB.out⟩
      case round =>
        obtain ⟨i, K, V, hk, rfl, rfl, rfl, hK, hV, hab⟩ := hrel
        clear HAB
        have HAB := hide hab
        have hKi : K ≤ i := by rw [hK]; exact Nat.le_trans (newer_le _ _) (by simp; omega)
        have hVi : V ≤ i := by rw [hV]; exact Nat.le_trans (unk_le _) (by simp; omega)
        have HK := hide hK
        have HV := hide hV
        clear hab hK hV
        by_cases hli : i < n
        · obtain ⟨z, b, off, hz, rfl, hn1, harg, _, _, _⟩ := HAB.out.sts.get (k := i) (by rw [← HN.out]; exact hli)
          have HZ := hide hz
          have HArg := hide harg
          obtain ⟨a0, a1, a2, a3, a4, a5, a6, a7, a8⟩ := hn1
          clear hz harg
          rcases Bool.eq_false_or_eq_true z.failed with hfl | hfl
          · have hnw : Hid (nw E z = false) := by show _ = _; simp [nw, hfl]
            go_wp2
            go_roundg (gk - 1)
            case measure => omega
            case rel => exact ⟨i + 1, K, V + 1, by omega, by go_num, rfl, by go_num, by rw [newer_no HZ.out hnw.out]; exact HK.out, by rw [unk_yes HZ.out hfl, ← HV.out], HAB.out.below ((Below.refl _ _).alloc (Nat.le_refl _) _)⟩
          · by_cases hp : z.prom ≤ E
            · have hnw : Hid (nw E z = false) := by show _ = _; simp [nw]; intro; omega
              go_wp2
              go_roundg (gk - 1)
              case measure => omega
              case rel => exact ⟨i + 1, K, V, by omega, by go_num, rfl, rfl, by rw [newer_no HZ.out hnw.out]; exact HK.out, by rw [unk_no HZ.out hfl]; exact HV.out, HAB.out.below ((Below.refl _ _).alloc (Nat.le_refl _) _)⟩
            · have hnw : Hid (nw E z = true) := by show _ = _; simp [nw, hfl]; omega
              have hNz : Hid (N[K]? = some z) := by show _ = _; rw [HNw.out, HK.out]; exact newer_get HZ.out hnw.out
              have hKm : (K : Int) < (m : Int) := by have := lt_of_get hNz.out; rw [← HM.out] at this; omega
              go_upto_region 26 with fail
              obtain ⟨W, hW⟩ : ∃ W, W = wr.alloc (.cells #[.string z.id, .string z.addr, .int .u64 z.first, .int .u64 z.last, .int .u64 z.prom, .slice z.ep z.n z.cap, .int .u64 z.bytes, .bool z.lost, .bool false] 45) := ⟨_, rfl⟩
              rw [← hW]
              have hbW : Below wr.heap.size wr W := by rw [hW]; exact (Below.refl _ _).alloc (Nat.le_refl _) _
              have hAW := HAB.out.below hbW
              have hnx : Nine W wr.heap.size 0 z := by have := nine_local wr z; rw [hfl] at this; rw [hW]; exact this
              clear hW a0 a1 a2 a3 a4 a5 a6 a7 a8
              obtain ⟨b2, gz, err, hp2, hn2, herr, hrg, _, _⟩ := hAW.cnw K z hNz.out
              have HC := hide (sameas_here (z := z) hfl (HFt.out i z HZ.out) herr hrg (HArg.out.below hbW) hAW.fen.c2 hnx hn2)
              have f2 := hAW.fen.c2
              have HAW := hide hAW
              obtain ⟨a0, a1, a2, a3, a4, a5, a6, a7, a8⟩ := hnx
              rw [hfl] at a8
              obtain ⟨d0, d1, d2, d3, d4, d5, d6, d7, d8⟩ := hn2
              have hgd : decide ((m : Int) ≤ (K : Int)) = false := decide_eq_false (by omega)
              have hgd2 : decide (m ≤ K) = false := decide_eq_false (by omega)
              subst hp2
              clear hbW hAW herr hrg HAB
              go_region_held3 (fun w' => w'.cell? ⟨FB, 2, none⟩ = some (.slice (some ⟨b2, 0, none⟩) m cv) ∧
                  w'.cell? ⟨wr.heap.size, 0, none⟩ = some (.string z.id) ∧ w'.cell? ⟨wr.heap.size, 1, none⟩ = some (.string z.addr) ∧ w'.cell? ⟨wr.heap.size, 2, none⟩ = some (.int .u64 z.first) ∧ w'.cell? ⟨wr.heap.size, 3, none⟩ = some (.int .u64 z.last) ∧ w'.cell? ⟨wr.heap.size, 4, none⟩ = some (.int .u64 z.prom) ∧ w'.cell? ⟨wr.heap.size, 5, none⟩ = some (.slice z.ep z.n z.cap) ∧ w'.cell? ⟨wr.heap.size, 6, none⟩ = some (.int .u64 z.bytes) ∧ w'.cell? ⟨wr.heap.size, 7, none⟩ = some (.bool z.lost) ∧ w'.cell? ⟨wr.heap.size, 8, none⟩ = some (.bool false) ∧
                  w'.cell? ⟨b2, K * 9, none⟩ = some (.string z.id) ∧ w'.cell? ⟨b2, K * 9 + 1, none⟩ = some (.string z.addr) ∧ w'.cell? ⟨b2, K * 9 + 2, none⟩ = some (.int .u64 z.first) ∧ w'.cell? ⟨b2, K * 9 + 3, none⟩ = some (.int .u64 z.last) ∧ w'.cell? ⟨b2, K * 9 + 4, none⟩ = some (.int .u64 z.prom) ∧ w'.cell? ⟨b2, K * 9 + 5, none⟩ = some (.slice (some ⟨gz, 0, none⟩) z.n z.n) ∧ w'.cell? ⟨b2, K * 9 + 6, none⟩ = some (.int .u64 z.bytes) ∧ w'.cell? ⟨b2, K * 9 + 7, none⟩ = some (.bool z.lost) ∧ w'.cell? ⟨b2, K * 9 + 8, none⟩ = some err) (first | exact hS | go_keep)
                (first | (go_at_call 9; refine (HC.out _ ?_).mono ?_; (exact (Below.refl _ _).drew); rintro e w' ⟨rfl, hb9, hS⟩))
              have HB9 := hide hb9
              clear hb9 hS HC
              go_wp2
              go_roundg (gk - 1)
              case measure => omega
              case rel => exact ⟨i + 1, K + 1, V, by omega, by go_num, by go_num, rfl, by rw [newer_yes HZ.out hnw.out, List.length_append, ← HK.out]; rfl, by rw [unk_no HZ.out hfl]; exact HV.out, HAW.out.below HB9.out⟩
        · have ei : L.take i = L := List.take_of_length_le (by rw [← HN.out]; omega)
          have eK : K = m := by rw [HK.out, ei, HM.out, HNw.out]
          have eV : V = U := by rw [HV.out, ei, HU.out]
          subst eK eV
          have f2 := HAB.out.fen.c2
          have f3 := HAB.out.fen.c3
          have f4 := HAB.out.fen.c4
          have HBe := hide HAB.out.bel
          have KF' := KF.out
          have KC' := KC.out
          clear ei HK HV HAB KF KC
          by_cases q1 : (n : Int) < 2 * (K : Int)
          · rw [decide_eq_true q1] at KF'
            subst KF'
            have q2 : ¬ 2 * ((K : Int) + (V : Int)) ≤ (n : Int) := by omega
            · rw [decide_eq_false q2] at KC'
              subst KC'
              go_wp2
              go_ret
              exact ⟨rfl, HBe.out⟩
          · rw [decide_eq_false q1] at KF'
            subst KF'
            by_cases q2 : 2 * ((K : Int) + (V : Int)) ≤ (n : Int)
            · rw [decide_eq_true q2] at KC'
              subst KC'
              go_wp2
              go_ret
              exact ⟨rfl, HBe.out⟩
            · rw [decide_eq_false q2] at KC'
              subst KC'
              go_wp2
              go_ret
              exact ⟨rfl, HBe.out⟩

set_option maxHeartbeats 400000 in
theorem lawA_long (p : Option Addr) (n c : Nat) (E : Int) (w : World) (hn : n ≤ maxLen) (hn4 : ¬ n ≤ 4096) (HY : Hid (Calls Try.prog 5 #[.slice p n c, .int .u64 E] w fun e w' => ∃ r, e = .returned (.bool r) ∧ w = w')) :
    Calls Try.prog 3 #[.slice p n c, .int .u64 E] w fun e w' => e = .returned (.bool true) ∧ Below w.heap.size w w' := by
  unfold maxLen at hn
  have l1 : (4096 : Int) < (n : Int) := by omega
  go_enter Try.func3, Try.ntmps3
  go_wp2_with fail
  refine HY.out.mono ?_
  rintro e w' ⟨r, rfl, rfl⟩
  rcases Bool.eq_false_or_eq_true r with hr | hr
  · subst hr
    go_wp2
    go_ret
    exact ⟨rfl, Below.refl _ _⟩
  · subst hr
    go_wp2
    go_ret
    exact ⟨rfl, Below.refl _ _⟩

theorem lawA_any (p : Option Addr) (L : List ZS) (c : Nat) (E : Int) (w : World) (hn : L.length ≤ maxLen) (hL : Sts w p L) :
    Calls Try.prog 3 #[.slice p L.length c, .int .u64 E] w fun e w' => e = .returned (.bool true) ∧ Below w.heap.size w w' := by
  by_cases h4 : L.length ≤ 4096
  · have hN := newer_le E L
    have hU := unk_le L
    refine lawA_core p L (newer E L) L.length (newer E L).length (unk L) c E (decide ((L.length : Int) / 2 + 1 ≤ ((newer E L).length : Int))) (decide (((newer E L).length : Int) + (unk L : Int) < (L.length : Int) / 2 + 1)) w h4 hL rfl rfl rfl rfl ?_ ?_ (by omega) (by omega)
      (bytes5_any p L c E w hn hL) (fit_any p L c w h4 hL) (fun hF => build_any p L c w h4 hL hF) ?_
    · show _ = _
      exact decide_eq_decide.2 (by omega)
    · show _ = _
      exact decide_eq_decide.2 (by omega)
    · intro g wx hc
      refine (zzfence_any wx.heap.size (some ⟨g, 0, none⟩) L L.length E wx h4 (Nat.le_refl _) hc).mono ?_
      rintro e w' ⟨pv, cv, rfl, h1, h2⟩
      exact ⟨pv, cv, rfl, h1.weak, h2⟩
  · exact lawA_long p L.length c E w hn h4 (bytes5_any p L c E w hn hL)

end Go.Proofs.Qxb6615733a
