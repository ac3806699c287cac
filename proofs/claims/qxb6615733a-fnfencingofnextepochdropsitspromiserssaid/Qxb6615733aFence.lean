/- fencingOf, ZZfencingOf. -/
import Derived.Test.Qxb6615733aFenceParts
import Derived.Test.Qxb6615733aFit
namespace Go.Proofs.Qxb6615733a
open Go.RowKit

set_option maxHeartbeats 1000000 in
theorem fence_any (B : Nat) (p : Option Addr) (L : List ZS) (c : Nat) (E : Int) (w : World) (hn : L.length ≤ 4096) (hB : B ≤ w.heap.size) (hL : Cpy w (fun k => k < B) p L) :
    Calls Try.prog 13 #[.slice p L.length c, .int .u64 E] w fun e w' => ∃ pv cv,
      e = .returned (.agg #[.int .u64 E, .slice p L.length c, .slice pv (newer E L).length cv, .bool (decide ((L.length : Int) / 2 + 1 ≤ ((newer E L).length : Int))), .bool (decide (((newer E L).length : Int) + (unk L : Int) < (L.length : Int) / 2 + 1))]) ∧
      Cpy w' (fun k => k < B ∨ w.heap.size + 2 ≤ k) pv (newer E L) ∧ Below w.heap.size w w' := by
  obtain ⟨i0, hi, hz0, hz1, hz2⟩ := info_parts info42
  obtain ⟨n, hnL⟩ : ∃ n, n = L.length := ⟨_, rfl⟩
  rw [← hnL] at hn ⊢
  have HN := hide hnL
  have HL := hide hL
  clear hnL hL
  go_enter Try.func13, Try.ntmps13
  go_wp2
  go_loopg [6, 15] n (fun g u i wr => ∃ (k U : Nat) (N : List ZS), k + g = n ∧ i = .int .i64 k ∧ u = .int .i64 U ∧ U = unk (L.take k) ∧ N = newer E (L.take k) ∧ FRel B w wr E p n c N)
  case atStart => exact ⟨0, 0, [], by omega, rfl, rfl, rfl, rfl, FRel.start B w E p n c⟩
  case round =>
    obtain ⟨k, U, N, hk, rfl, rfl, hU, hN, pv, cv, ys, h1, h2, h3, h4, h5⟩ := hrel
    have HU := hide hU
    have HNw := hide hN
    have hUk : U ≤ k := by rw [hU]; exact Nat.le_trans (unk_le _) (by simp; omega)
    have hNk : N.length ≤ k := by rw [hN]; exact Nat.le_trans (newer_le _ _) (by simp; omega)
    clear hU hN
    have HR : Hid (FRel B w wr E p n c N) := ⟨pv, cv, ys, h1, h2, h3, h4, h5⟩
    by_cases hlt : k < n
    · obtain ⟨z, b, g, err, hz, rfl, hnine, herr, hgw0, _, hgB⟩ := HL.out.get (k := k) (by rw [← HN.out]; exact hlt)
      obtain ⟨c0, c1, c2, c3, c4, c5, c6, c7, c8⟩ := hnine.below h5 hnine.lt
      have hrg := hgw0.below h5
      have HZ := hide hz
      have HE := hide herr
      have HG := hide hrg
      have H1 := hide h1
      have H2 := hide h2
      have H3 := hide h3
      have H4 := hide h4
      have H5 := hide h5
      have hsz := lt_of_block h1
      have f2 : wr.cell? ⟨w.heap.size + 1, 2, none⟩ = some (.slice pv N.length cv) := by simp [World.cell?, h1]
      have g2 : wr.frozen? ⟨w.heap.size + 1, 2, none⟩ = false := by simp [World.frozen?, h1]
      have hgw : Rng w g z := hgw0
      clear hz herr hrg h1 h2 h3 h4 h5 hgw0
      rcases HE.out with ⟨hfl, he⟩ | ⟨hfl, ad, he⟩
      · subst he
        by_cases hp : E < z.prom
        · have HGw : Hid (Rng w g z) := hgw
          have hnw : Hid (nw E z = true) := by show _ = _; simp [nw, hfl, hp]
          clear hgw
          go_wp2_with (at_builtin; refine wpList_append_lies _ rfl (.tmp 32) (.tmp 34) 27 rfl (w.heap.size + 2) 42 i0 _ 9 112 Try.underlying27 hi hz0 hz1 hz2 rfl (by omega) (.slice pv N.length cv) N.length ys rfl ((H3.out.alloc _).alloc _) ⟨wr.heap.size + 1, 0, none⟩ 1 1 (cs z g .nilIface).toList rfl rfl (news_cells2 wr _ _ 42) (cs_one z g _ HE.out) (by omega) (by unfold maxLen; omega) (by omega) (by simp; omega) (wr.heap.size + 2) (by simp) ?_; intro g' cap w1 hown hgr hat hlt1; have fb := fb_after H1.out H3.out (below2 _ _ _) hgr; have f3 : w1.cell? ⟨w.heap.size + 1, 2, none⟩ = some (.slice pv N.length cv) := (by simp [World.cell?, fb]); have g3 : w1.frozen? ⟨w.heap.size + 1, 2, none⟩ = false := (by simp [World.frozen?, fb]); clear fb)
          have HP := hide (FRel.push2 H1.out H2.out H3.out H4.out H5.out (below2 _ _ _) hown hgr HE.out HGw.out hB hgB)
          clear hown hgr hat
          go_roundg (gk - 1)
          case measure => omega
          case rel => exact ⟨k + 1, U, N ++ [z], by omega, by go_num, rfl, by rw [unk_no HZ.out hfl]; exact HU.out, by rw [newer_yes HZ.out hnw.out, ← HNw.out], HP.out⟩
        · have hnw : Hid (nw E z = false) := by show _ = _; simp [nw]; intro; omega
          clear hgw
          go_wp2
          go_roundg (gk - 1)
          case measure => omega
          case rel => exact ⟨k + 1, U, N, by omega, by go_num, rfl, by rw [unk_no HZ.out hfl]; exact HU.out, by rw [newer_no HZ.out hnw.out, ← HNw.out], HR.out.alloc _⟩
      · subst he
        have hnw : Hid (nw E z = false) := by show _ = _; simp [nw, hfl]
        clear hgw
        go_wp2
        go_roundg (gk - 1)
        case measure => omega
        case rel => exact ⟨k + 1, U + 1, N, by omega, by go_num, by go_num, by rw [unk_yes HZ.out hfl, ← HU.out], by rw [newer_no HZ.out hnw.out, ← HNw.out], HR.out.alloc _⟩
    · have ek : k = n := by omega
      have HUL : Hid (U = unk L) := by
        show _ = _
        rw [HU.out, List.take_of_length_le (by rw [← HN.out]; omega)]
      have HNL : Hid (N = newer E L) := by
        show _ = _
        rw [HNw.out, List.take_of_length_le (by rw [← HN.out]; omega)]
      have HO3 : Hid (Own3 B w wr (.slice pv N.length cv) N ys) := ⟨h3, h4, h5⟩
      have H1 := hide h1
      have H2 := hide h2
      have H5 := hide h5
      have hsz := lt_of_block h1
      have f0 : wr.cell? ⟨w.heap.size + 1, 0, none⟩ = some (.int .u64 E) := by simp [World.cell?, h1]
      have f1 : wr.cell? ⟨w.heap.size + 1, 1, none⟩ = some (.slice p n c) := by simp [World.cell?, h1]
      have f2 : wr.cell? ⟨w.heap.size + 1, 2, none⟩ = some (.slice pv N.length cv) := by simp [World.cell?, h1]
      have f3 : wr.cell? ⟨w.heap.size + 1, 3, none⟩ = some (.bool false) := by simp [World.cell?, h1]
      have f4 : wr.cell? ⟨w.heap.size + 1, 4, none⟩ = some (.bool false) := by simp [World.cell?, h1]
      have g3 : wr.frozen? ⟨w.heap.size + 1, 3, none⟩ = false := by simp [World.frozen?, h1]
      have g4 : wr.frozen? ⟨w.heap.size + 1, 4, none⟩ = false := by simp [World.frozen?, h1]
      have r0 : wr.cell? ⟨w.heap.size, 0, none⟩ = some (.int .u64 0) := by simp [World.cell?, h2]
      have r1 : wr.cell? ⟨w.heap.size, 1, none⟩ = some (.slice none 0 0) := by simp [World.cell?, h2]
      have r2 : wr.cell? ⟨w.heap.size, 2, none⟩ = some (.slice none 0 0) := by simp [World.cell?, h2]
      have r3 : wr.cell? ⟨w.heap.size, 3, none⟩ = some (.bool false) := by simp [World.cell?, h2]
      have r4 : wr.cell? ⟨w.heap.size, 4, none⟩ = some (.bool false) := by simp [World.cell?, h2]
      have s0 : wr.frozen? ⟨w.heap.size, 0, none⟩ = false := by simp [World.frozen?, h2]
      have s1 : wr.frozen? ⟨w.heap.size, 1, none⟩ = false := by simp [World.frozen?, h2]
      have s2 : wr.frozen? ⟨w.heap.size, 2, none⟩ = false := by simp [World.frozen?, h2]
      have s3 : wr.frozen? ⟨w.heap.size, 3, none⟩ = false := by simp [World.frozen?, h2]
      have s4 : wr.frozen? ⟨w.heap.size, 4, none⟩ = false := by simp [World.frozen?, h2]
      have hUn : U ≤ 4096 := by omega
      have hNn : N.length ≤ 4096 := by omega
      clear h1 h2 h3 h4 h5 HR HL HU HNw ek hk hUk hNk
      go_wp2_with fail
      refine (majority_any n _ hn).mono ?_
      rintro e w' ⟨rfl, rfl⟩
      go_wp2
      have HV := hide (((((((HO3.out.set hB ⟨w.heap.size + 1, 3, none⟩ (.inr rfl) (.bool (decide ((n : Int) / 2 + 1 ≤ (N.length : Int))))).set hB ⟨w.heap.size + 1, 4, none⟩ (.inr rfl) (.bool (decide ((N.length : Int) + (U : Int) < (n : Int) / 2 + 1)))).set hB
        ⟨w.heap.size, 0, none⟩ (.inl rfl) (.int .u64 E)).set hB ⟨w.heap.size, 1, none⟩ (.inl rfl) (.slice p n c)).set hB ⟨w.heap.size, 2, none⟩ (.inl rfl) (.slice pv N.length cv)).set hB ⟨w.heap.size, 3, none⟩ (.inl rfl) (.bool (decide ((n : Int) / 2 + 1 ≤ (N.length : Int))))).set hB
        ⟨w.heap.size, 4, none⟩ (.inl rfl) (.bool (decide ((N.length : Int) + (U : Int) < (n : Int) / 2 + 1))))
      refine bodyPost_ret (v := .agg #[.int .u64 E, .slice p n c, .slice pv N.length cv, .bool (decide ((n : Int) / 2 + 1 ≤ (N.length : Int))), .bool (decide ((N.length : Int) + (U : Int) < (n : Int) / 2 + 1))]) (by simp [results, Try.results13, go_sem, r0, r1, r2, r3, r4]) rfl ⟨pv, cv, ?_, ?_, HV.out.2.2⟩
      · rw [HNL.out, HUL.out]
      · rw [← HNL.out]
        exact Cpy.of_own HV.out.1 HV.out.2.1

/-- Five stores into one block turn no other. -/
theorem five_other (w : World) (b : Nat) (v0 v1 v2 v3 v4 : Value) (k : Nat) (hk : k ≠ b) :
    (((((w.setCell ⟨b, 0, none⟩ v0).setCell ⟨b, 1, none⟩ v1).setCell ⟨b, 2, none⟩ v2).setCell ⟨b, 3, none⟩ v3).setCell ⟨b, 4, none⟩ v4).heap[k]? = w.heap[k]? := by
  rw [Below.heap_setCell _ _ _ _ hk, Below.heap_setCell _ _ _ _ hk, Below.heap_setCell _ _ _ _ hk, Below.heap_setCell _ _ _ _ hk, Below.heap_setCell _ _ _ _ hk]

set_option maxHeartbeats 400000 in
theorem zzfence_any (B : Nat) (p : Option Addr) (L : List ZS) (c : Nat) (E : Int) (w : World) (hn : L.length ≤ 4096) (hB : B ≤ w.heap.size) (hL : Cpy w (fun k => k < B) p L) :
    Calls Try.prog 7 #[.slice p L.length c, .int .u64 E] w fun e w' => ∃ pv cv,
      e = .returned (.agg #[.int .u64 E, .slice p L.length c, .slice pv (newer E L).length cv, .bool (decide ((L.length : Int) / 2 + 1 ≤ ((newer E L).length : Int))), .bool (decide (((newer E L).length : Int) + (unk L : Int) < (L.length : Int) / 2 + 1))]) ∧
      Cpy w' (fun k => k < B ∨ w.heap.size + 3 ≤ k) pv (newer E L) ∧ Below w.heap.size w w' := by
  obtain ⟨n, hnL⟩ : ∃ n, n = L.length := ⟨_, rfl⟩
  obtain ⟨m, hm⟩ : ∃ m, m = (newer E L).length := ⟨_, rfl⟩
  obtain ⟨F, hF⟩ : ∃ F, F = decide ((L.length : Int) / 2 + 1 ≤ ((newer E L).length : Int)) := ⟨_, rfl⟩
  obtain ⟨C, hC⟩ : ∃ C, C = decide (((newer E L).length : Int) + (unk L : Int) < (L.length : Int) / 2 + 1) := ⟨_, rfl⟩
  have HC := hide (fun o => fence_any B p L c E (w.alloc o) hn (by simp; omega) (hL.below ((Below.refl _ _).alloc (Nat.le_refl _) o)))
  rw [← hF, ← hC, ← hm, ← hnL] at HC ⊢
  clear hnL hm hF hC hL
  go_enter Try.func7, Try.ntmps7
  go_wp2_with fail
  refine (HC.out _).mono ?_
  rintro e w1 ⟨pv, cv, rfl, hcp, hb⟩
  have hsz : w.heap.size < w1.heap.size := by have := hb.size; simp at this; omega
  have hblk : w1.heap[w.heap.size]? = some (.cells #[.int .u64 0, .slice none 0 0, .slice none 0 0, .bool false, .bool false] 29 (0, 0)) := by
    rw [hb.block _ (by simp)]
    show (w.heap.push _)[w.heap.size]? = _
    simp
  have HCp : Hid (Cpy w1 (fun k => k < B ∨ w.heap.size + 1 + 2 ≤ k) pv (newer E L)) := by show Cpy _ _ _ _; simpa using hcp
  have HBe : Hid (Below w.heap.size w w1) := ((Below.refl _ _).alloc (Nat.le_refl _) _).trans (hb.mono (by simp))
  have r0 : w1.cell? ⟨w.heap.size, 0, none⟩ = some (.int .u64 0) := by simp [World.cell?, hblk]
  have r1 : w1.cell? ⟨w.heap.size, 1, none⟩ = some (.slice none 0 0) := by simp [World.cell?, hblk]
  have r2 : w1.cell? ⟨w.heap.size, 2, none⟩ = some (.slice none 0 0) := by simp [World.cell?, hblk]
  have r3 : w1.cell? ⟨w.heap.size, 3, none⟩ = some (.bool false) := by simp [World.cell?, hblk]
  have r4 : w1.cell? ⟨w.heap.size, 4, none⟩ = some (.bool false) := by simp [World.cell?, hblk]
  have s0 : w1.frozen? ⟨w.heap.size, 0, none⟩ = false := by simp [World.frozen?, hblk]
  have s1 : w1.frozen? ⟨w.heap.size, 1, none⟩ = false := by simp [World.frozen?, hblk]
  have s2 : w1.frozen? ⟨w.heap.size, 2, none⟩ = false := by simp [World.frozen?, hblk]
  have s3 : w1.frozen? ⟨w.heap.size, 3, none⟩ = false := by simp [World.frozen?, hblk]
  have s4 : w1.frozen? ⟨w.heap.size, 4, none⟩ = false := by simp [World.frozen?, hblk]
  clear hblk hcp hb HC
  go_wp2
  refine bodyPost_ret (v := .agg #[.int .u64 E, .slice p n c, .slice pv m cv, .bool F, .bool C]) (by simp [results, Try.results7, go_sem, r0, r1, r2, r3, r4]) rfl ⟨pv, cv, rfl, ?_, ?_⟩
  · exact HCp.out.kept (by simp) (fun k hk => five_other _ _ _ _ _ _ _ k (by rcases hk with hk | hk <;> omega))
  · exact ((((HBe.out.setCell (p := ⟨w.heap.size, 0, none⟩) (Nat.le_refl _) _).setCell (p := ⟨w.heap.size, 1, none⟩) (Nat.le_refl _) _).setCell (p := ⟨w.heap.size, 2, none⟩) (Nat.le_refl _) _).setCell (p := ⟨w.heap.size, 3, none⟩) (Nat.le_refl _) _).setCell (p := ⟨w.heap.size, 4, none⟩) (Nat.le_refl _) _

end Go.Proofs.Qxb6615733a
