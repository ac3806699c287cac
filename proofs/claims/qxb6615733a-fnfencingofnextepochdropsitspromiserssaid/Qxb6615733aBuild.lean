/- zzBuild: the copies of the law's states. -/
import Derived.Test.Qxb6615733aCp
namespace Go.Proofs.Qxb6615733a
open Go.RowKit

set_option maxHeartbeats 1000000 in
theorem build_any (p : Option Addr) (L : List ZS) (c : Nat) (w : World) (hn : L.length ≤ 4096) (hL : Sts w p L) (hF : ∀ (i : Nat) (z : ZS), L[i]? = some z → z.n ≤ 65536) :
    Calls Try.prog 8 #[.slice p L.length c] w fun e w' => ∃ g, e = .returned (.slice (some ⟨g, 0, none⟩) L.length L.length) ∧ Cpy w' (fun k => k < w'.heap.size) (some ⟨g, 0, none⟩) L ∧ Below w.heap.size w w' := by
  obtain ⟨i0, hi, hz0, hz1, hz2⟩ := info_parts info42
  obtain ⟨n, hnL⟩ : ∃ n, n = L.length := ⟨_, rfl⟩
  rw [← hnL] at hn ⊢
  have HN := hide hnL
  have HL := hide hL
  have HF := hide hF
  clear hnL hL hF
  go_enter Try.func8, Try.ntmps8
  go_wp2_with (at_make; refine wpList_make_own _ rfl _ _ 27 rfl w.heap.size 42 i0 _ 9 Try.underlying27 hi hz0 hz1 _ _ _ n rfl rfl rfl (by rw [hz2]; omega) (by unfold maxLen; omega) (Nat.le_refl _) ?_; intro w1 hown hgrow)
  have HB0 : Hid (Bld w w1 n 0 L (.slice (some ⟨w.heap.size, 0, none⟩) 0 n)) := ⟨[], rfl, hown, rfl, (Below.refl w.heap.size w).grown hgrow (Nat.le_refl _) (by intro k hk; cases hk)⟩
  clear hown hgrow
  go_loopg [3, 4] n (fun g v i wr => ∃ k : Nat, k + g = n ∧ i = .int .i64 k ∧ Bld w wr n k L v)
  case atStart => exact ⟨0, by omega, rfl, HB0.out⟩
  case round =>
    obtain ⟨k, hk, rfl, xs, rfl, hown, hel, hbel⟩ := hrel
    clear HB0
    by_cases hlt : k < n
    · obtain ⟨z, b, off, hz, rfl, hnine, harg, _, _, _⟩ := (HL.out.below hbel).get (k := k) (by rw [← HN.out]; exact hlt)
      have HZ := hide hz
      have HR := hide harg
      have HZN : z.n ≤ 65536 := HF.out k z hz
      have HO := hide hown
      have HE := hide hel
      have HBe := hide hbel
      obtain ⟨c0, c1, c2, c3, c4, c5, c6, c7, c8⟩ := hnine
      clear hz harg hown hel hbel
      go_upto_region 7 with fail
      go_cut [7] (fun t7 wx => Rel7 wr z t7 wx)
      case first =>
        clear c0 c1 c2 c3 c4 c5 c6 c7 c8
        obtain ⟨W, hW⟩ : ∃ W, W = (wr.alloc (.cells #[.string z.id, .string z.addr, .int .u64 z.first, .int .u64 z.last, .int .u64 z.prom, .slice z.ep z.n z.cap, .int .u64 z.bytes, .bool z.lost, .bool z.failed] 45)).alloc (.cells #[.string z.id, .string z.addr] 34) := ⟨_, rfl⟩
        rw [← hW]
        have q2 : W.cell? ⟨wr.heap.size, 2, none⟩ = some (.int .u64 z.first) := by rw [hW]; go_simp
        have q3 : W.cell? ⟨wr.heap.size, 3, none⟩ = some (.int .u64 z.last) := by rw [hW]; go_simp
        have q4 : W.cell? ⟨wr.heap.size, 4, none⟩ = some (.int .u64 z.prom) := by rw [hW]; go_simp
        have q5 : W.cell? ⟨wr.heap.size, 5, none⟩ = some (.slice z.ep z.n z.cap) := by rw [hW]; go_simp
        have q6 : W.cell? ⟨wr.heap.size, 6, none⟩ = some (.int .u64 z.bytes) := by rw [hW]; go_simp
        have q7 : W.cell? ⟨wr.heap.size, 7, none⟩ = some (.bool z.lost) := by rw [hW]; go_simp
        have q8 : W.cell? ⟨wr.heap.size, 8, none⟩ = some (.bool z.failed) := by rw [hW]; go_simp
        have r0 : W.cell? ⟨wr.heap.size + 1, 0, none⟩ = some (.string z.id) := by rw [hW]; go_simp
        have r1 : W.cell? ⟨wr.heap.size + 1, 1, none⟩ = some (.string z.addr) := by rw [hW]; go_simp
        have hsz : wr.heap.size + 1 < W.heap.size := by rw [hW]; simp
        have hbW : Below wr.heap.size wr W := by rw [hW]; exact ((Below.refl _ _).alloc (Nat.le_refl _) _).alloc (by simp) _
        have HaW : Hid (Arg W z) := HR.out.below hbW
        clear hW
        have HC := hide (epochs_drawn z W wr.heap.size HZN HaW.out hsz q2 q3 q4 q5 q6 q7 q8 r0 r1)
        have HBW := hide hbW
        have hne : W.heap.size ≠ wr.heap.size := by omega
        clear hbW HaW HR HL HF HO HE HBe r0 r1 q8
        go_region_held3 (fun w' => w'.cell? ⟨wr.heap.size, 2, none⟩ = some (.int .u64 z.first) ∧ w'.cell? ⟨wr.heap.size, 3, none⟩ = some (.int .u64 z.last) ∧ w'.cell? ⟨wr.heap.size, 4, none⟩ = some (.int .u64 z.prom) ∧ w'.cell? ⟨wr.heap.size, 5, none⟩ = some (.slice z.ep z.n z.cap) ∧ w'.cell? ⟨wr.heap.size, 6, none⟩ = some (.int .u64 z.bytes) ∧ w'.cell? ⟨wr.heap.size, 7, none⟩ = some (.bool z.lost)) (go_keep)
          (first | (go_at_call 14; refine (HC.out _ ?_).mono ?_; (first | exact .inl rfl | exact .inr ⟨_, rfl⟩); rintro e w' ⟨ge, rfl, ⟨s2, s3, s4, s5, s6, s7, s8, t0, t1, hr, hlo, hbe⟩, hh⟩; try (obtain ⟨hblk, hgt⟩ := hh _ rfl; obtain ⟨⟨y0, y1, y2, y3, y4, y5⟩, ⟨z0, z1, z2, z3, z4, z5⟩⟩ := zero6 hblk)))
        · go_wp2
          go_meet
          case rel => exact rel7_alloc hsz HBW.out ⟨s2, s3, s4, s5, s6, s7, s8, t0, t1, hr, hlo, hbe⟩
        · go_wp2
          go_meet
          case rel => exact rel7_store hsz HBW.out ⟨s2, s3, s4, s5, s6, s7, s8, t0, t1, hr, hlo, hbe⟩ hblk hgt
      case rest =>
      obtain ⟨gc, ge, rfl, ⟨d0, d1, d2, d3, d4, d5⟩, hr, hge, x8, n0, n1, hb7⟩ := hcut
      have HO7 := hide (own_below HO.out hb7)
      have hwl : w.heap.size < wr.heap.size := (HO.out.lt _ rfl).2
      have HRg := hide hr
      have HB7 := hide hb7
      clear c0 c1 c2 c3 c4 c5 c6 c7 c8 hr hb7 HR HL HF
      rcases Bool.eq_false_or_eq_true z.failed with hfl | hfl
      · go_wp2_with fail
        refine (failed_lit z ge _).mono ?_
        rintro e w2 ⟨ad, rfl, hb2⟩
        have herr : Hid (ErrOk z (.iface 55 (.pointer (some ad)))) := .inr ⟨hfl, ad, rfl⟩
        have HO2 := hide (own_below HO7.out hb2)
        have HB2 := hide hb2
        clear hb2 d0 d1 d2 d3 d4 d5 x8 n0 n1
        go_wp2_with (at_builtin; refine wpList_append_fits _ rfl (.tmp 42) (.tmp 46) 27 rfl w.heap.size 42 i0 9 Try.underlying27 hi hz1 w.heap.size k n xs rfl (HO2.out.alloc _) ⟨w2.heap.size, 0, none⟩ 1 1 (cs z ge (.iface 55 (.pointer (some ad)))).toList rfl rfl (news_cells w2 _ 42) (cs_one z ge _ herr.out) (by omega) ?_; intro w3 hown3 hg3)
        have HS := hide (bld_step HE.out HBe.out hwl HB7.out HB2.out hg3 hown3 HRg.out hge herr.out HZ.out)
        clear hown3 hg3
        go_roundg (gk - 1)
        case measure => omega
        case rel => exact ⟨k + 1, by omega, by go_num, HS.out⟩
      · go_wp2_with fail
        refine (answered_lit z ge _).mono ?_
        rintro e w2 ⟨rfl, hb2⟩
        have herr : Hid (ErrOk z .nilIface) := .inl ⟨hfl, rfl⟩
        have HO2 := hide (own_below HO7.out hb2)
        have HB2 := hide hb2
        clear hb2 d0 d1 d2 d3 d4 d5 x8 n0 n1
        go_wp2_with (at_builtin; refine wpList_append_fits _ rfl (.tmp 48) (.tmp 52) 27 rfl w.heap.size 42 i0 9 Try.underlying27 hi hz1 w.heap.size k n xs rfl (HO2.out.alloc _) ⟨w2.heap.size, 0, none⟩ 1 1 (cs z ge .nilIface).toList rfl rfl (news_cells w2 _ 42) (cs_one z ge _ herr.out) (by omega) ?_; intro w3 hown3 hg3)
        have HS := hide (bld_step HE.out HBe.out hwl HB7.out HB2.out hg3 hown3 HRg.out hge herr.out HZ.out)
        clear hown3 hg3
        go_roundg (gk - 1)
        case measure => omega
        case rel => exact ⟨k + 1, by omega, by go_num, HS.out⟩
    · have HK : Hid (Cpy wr (fun k => k < wr.heap.size) (some ⟨w.heap.size, 0, none⟩) L) := by
        have ek : k = L.length := by rw [← HN.out]; omega
        subst ek
        rw [List.take_of_length_le (Nat.le_refl _)] at hel
        exact (Cpy.of_own hown hel).bound
      have HBe := hide hbel
      have ek : Hid (k = n) := by show k = n; omega
      clear hown hel hbel HL HF HN
      go_wp2
      go_ret
      exact ⟨w.heap.size, by rw [ek.out]; rfl, HK.out, HBe.out⟩

end Go.Proofs.Qxb6615733a
