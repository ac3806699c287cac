/- The walk of 'FnCountAddsOverACut' on inputs within the bounds. -/
import Derived.Test.Qxb6614675aParts
import Derived.Deep.DeepCutAuto
namespace Go.Proofs.Qxb6614675a
open Go.RowKit

theorem info21 : (Try.prog.info? 21).map (fun i => (i.zero, i.size, i.bytes)) = some (some (.int .i32 0), 1, 4) := by kernel_rfl

set_option maxRecDepth 4000 in
set_option maxHeartbeats 1000000 in
theorem main_walk (a0 : Option Addr) (len0 cap0 : Nat) (a1 : Option Addr) (len1 cap1 : Nat) (w : World)
    (h0 : len0 ≤ 65536) (h1 : len1 ≤ 65536) (n0 : a0 = none → len0 = 0) (n1 : a1 = none → len1 = 0) (s0 : Src w a0 len0) (s1 : Src w a1 len1) :
    Calls Try.prog 3 #[.slice a0 len0 cap0, .slice a1 len1 cap1] w fun e w' => e = .returned (.bool true) ∧ Below w.heap.size w w' := by
  have qn : ∀ (w : World) (a : Option Addr) (n c n' c' : Nat), (binOp .neq 22 (.slice a n c) (.slice none n' c')).run Try.prog w = .ok (.bool (!a.isNone)) w :=
    fun w a n c n' c' => run_neq_slice_nil_any w _ _ a n c n' c' Try.underlying22
  have hmk0 := run_make_row' (P := Try.prog) 22 21 (.int .i32 0) 4 Try.underlying22 info21 rfl .i64 .i64 len0 (by omega) (by omega)
  have hmk1 := run_make_row' (P := Try.prog) 22 21 (.int .i32 0) 4 Try.underlying22 info21 rfl .i64 .i64 len1 (by omega) (by omega)
  have hmkj := run_make_row' (P := Try.prog) 22 21 (.int .i32 0) 4 Try.underlying22 info21 rfl .i64 .i64 (len0 + len1) (by omega) (by omega)
  have ec : ((len0 + len1 : Nat) : Int) = (len0 : Int) + (len1 : Int) := by omega
  rw [ec] at hmkj
  clear ec
  have hd : decide (len0 + len1 ≤ 1048576) = true := decide_eq_true (by omega)
  have hby := fun wx => bytes_any a0 len0 cap0 a1 len1 cap1 wx (by unfold maxLen; omega) (by unfold maxLen; omega)
  rw [hd] at hby
  clear hd
  have HY := hby
  have HB : Hid (∀ wx, Calls Try.prog 6 #[.slice a0 len0 cap0, .slice a1 len1 cap1] wx fun e w' => e = .returned (.bool true) ∧ wx = w') := hby
  clear hby HY
  have l0 : ¬ (65536 : Int) < (len0 : Int) := by omega
  have l1 : ¬ (65536 : Int) < (len1 : Int) := by omega
  go_enter Try.func3, Try.ntmps3
  go_upto_if 35 with (go_at_call 6; refine (HB.out _).mono ?_; rintro e w' ⟨rfl, rfl⟩)
  go_cut [0] (fun t0 wx => ∃ p c, t0 = .slice p len0 c ∧ Own wx w.heap.size wx.heap.size p len0 ∧ Below w.heap.size w wx)
  case first =>
    cases a0 with
    | none =>
      have e0 : Hid (len0 = 0) := n0 rfl
      clear n0 n1 s0 s1 hmk0 hmk1 hmkj HB

      go_wp2
      go_meet
      case rel => exact ⟨_, _, rfl, .inl ⟨rfl, e0.out⟩, Below.refl _ _⟩
    | some x =>
      have HS : Hid (Src w (some x) len0) := s0
      clear n0 n1 s0 s1 hmk1 hmkj HB
      go_wp2_with (refine copy_here rfl (.tmp 39) (.tmp 40) rfl w x len0 _ rfl rfl HS.out ?_; intro w2 hr2 hb2)
      go_meet
      case rel => exact ⟨_, _, rfl, hr2.own (Nat.le_refl _), hb2⟩
  case rest =>
  rename World => w1
  obtain ⟨pa, ca, rfl, oa, ba⟩ := hcut
  have s1c := s1.below ba
  clear s0 s1 n0 HB hmk0
  have OA : Hid (Own w1 w.heap.size w1.heap.size pa len0) := oa
  clear oa
  go_upto_if 44 with fail
  go_cut [1] (fun t1 wx => ∃ p c, t1 = .slice p len1 c ∧ Own wx w.heap.size wx.heap.size p len1 ∧ Below w1.heap.size w1 wx)
  case first =>
    cases a1 with
    | none =>
      have e1 : Hid (len1 = 0) := n1 rfl
      clear n1 s1c hmk1 hmkj
      go_wp2
      go_meet
      case rel => exact ⟨_, _, rfl, .inl ⟨rfl, e1.out⟩, Below.refl _ _⟩
    | some x =>
      have HS : Hid (Src w1 (some x) len1) := s1c
      clear n1 s1c hmkj
      go_wp2_with (refine copy_here rfl (.tmp 48) (.tmp 49) rfl w1 x len1 _ rfl rfl HS.out ?_; intro w2 hr2 hb2)
      go_meet
      case rel => exact ⟨_, _, rfl, hr2.own ba.size, hb2⟩
  case rest =>
  rename World => w2
  obtain ⟨pb, cb, rfl, ob, bb⟩ := hcut
  have OA2 : Hid (Own w2 w.heap.size w2.heap.size pa len0) := (OA.out.below (Nat.le_refl _) bb).more bb.size
  have OB2 : Hid (Own w2 w.heap.size w2.heap.size pb len1) := ob
  have B2 : Hid (Below w.heap.size w w2) := ba.trans (bb.mono ba.size)
  clear ob bb ba OA s1c n1 hmk1
  have MB : Hid (Below w2.heap.size w2 (w2.alloc (.cells (madeCells #[.int .i32 0] (len0 + len1)) 21))) := (Below.refl _ _).alloc (Nat.le_refl _) _
  have MR : Hid (Row (w2.alloc (.cells (madeCells #[.int .i32 0] (len0 + len1)) 21)) w2.heap.size (len0 + len1)) := Row.made w2 (len0 + len1)
  go_wp2
  clear hmkj
  go_loopg [8] len0 (fun k i wr => ∃ n : Nat, n + k = len0 ∧ i = .int .i64 n ∧ Row wr w2.heap.size (len0 + len1) ∧ Below w2.heap.size w2 wr)
  case atStart => exact ⟨0, by omega, rfl, MR.out, MB.out⟩
  case round =>
    obtain ⟨n, hn, rfl, hrow, hbel⟩ := hrel
    by_cases hlt : n < len0
    · obtain ⟨g, z, rfl, hg, hcell⟩ := OA2.out.cellAt (Nat.le_refl _) hbel hlt
      obtain ⟨z2, hcj⟩ := hrow.cellAt (k := n) (by omega)
      have hfj := hrow.free n
      have R : Hid (Row (wr.setCell ⟨w2.heap.size, n, none⟩ (.int .i32 z)) w2.heap.size (len0 + len1)) := hrow.stored n z
      have BR : Hid (Below w2.heap.size w2 (wr.setCell ⟨w2.heap.size, n, none⟩ (.int .i32 z))) := hbel.setCell (Nat.le_refl _) _
      clear hrow hbel
      have hlt' : n < len0 + len1 := by omega
      go_wp2
      go_roundg (gk - 1)
      case measure => omega
      case rel => exact ⟨n + 1, by omega, by go_num, R.out, BR.out⟩
    · clear hn
      have ER : Hid (Row wr w2.heap.size (len0 + len1)) := hrow
      have EB : Hid (Below w2.heap.size w2 wr) := hbel
      clear hrow hbel MB MR
      go_wp2
      rename World => w3
      go_loopg [9] len1 (fun k i wr => ∃ n : Nat, n + k = len1 ∧ i = .int .i64 n ∧ Row wr w2.heap.size (len0 + len1) ∧ Below w2.heap.size w2 wr)
      case atStart => exact ⟨0, by omega, rfl, ER.out, EB.out⟩
      case round =>
        obtain ⟨m, hm, rfl, hrow, hbel⟩ := hrel
        clear ER EB
        by_cases hlt : m < len1
        · obtain ⟨g, z, rfl, hg, hcell⟩ := OB2.out.cellAt (Nat.le_refl _) hbel hlt
          obtain ⟨z2, hcj⟩ := hrow.cellAt (k := len0 + m) (by omega)
          have hfj := hrow.free (len0 + m)
          have R : Hid (Row (wr.setCell ⟨w2.heap.size, len0 + m, none⟩ (.int .i32 z)) w2.heap.size (len0 + len1)) := hrow.stored (len0 + m) z
          have BR : Hid (Below w2.heap.size w2 (wr.setCell ⟨w2.heap.size, len0 + m, none⟩ (.int .i32 z))) := hbel.setCell (Nat.le_refl _) _
          clear hrow hbel
          have hlt' : len0 + m < len0 + len1 := by omega
          go_wp2
          go_roundg (gk - 1)
          case measure => omega
          case rel => exact ⟨m + 1, by omega, by go_num, R.out, BR.out⟩
        · clear hm
          have B3 : Hid (Below w.heap.size w wr) := B2.out.trans (hbel.mono B2.out.size)
          clear hrow hbel OA2 OB2 B2
          go_wp2_with fail
          rename World => w4
          refine (spans_any _ _ _ _).mono ?_
          rintro e v1 ⟨rfl, hv1, hc1⟩
          go_wp2_with fail
          refine (count_any _ _ _ _ _ (by omega) hc1).mono ?_
          rintro e v1' ⟨rfl, hw⟩
          subst hw
          have B4 : Hid (Below w.heap.size w v1) := B3.out.trans (hv1.mono B3.out.size)
          clear hv1 hc1 B3
          go_wp2_with fail
          refine (spans_any _ _ _ _).mono ?_
          rintro e v2 ⟨rfl, hv2, hc2⟩
          go_wp2_with fail
          refine (count_any _ _ _ _ _ (by omega) hc2).mono ?_
          rintro e v2' ⟨rfl, hw⟩
          subst hw
          have B5 : Hid (Below w.heap.size w v2) := B4.out.trans (hv2.mono B4.out.size)
          clear hv2 hc2 B4
          go_wp2_with fail
          refine (spans_any _ _ _ _).mono ?_
          rintro e v3 ⟨rfl, hv3, hc3⟩
          go_wp2_with fail
          refine (count_any _ _ _ _ _ (by omega) hc3).mono ?_
          rintro e v3' ⟨rfl, hw⟩
          subst hw
          have B6 : Hid (Below w.heap.size w v3) := B5.out.trans (hv3.mono B5.out.size)
          clear hv3 hc3 B5
          have q0 := cnt_facts len0
          have q1 := cnt_facts len1
          have qj := cnt_facts (len0 + len1)
          by_cases e0 : len0 = 0
          · have t0 : ((len0 : Int) == 0) = true := by simp [e0]
            have k0 : 1 ≤ cnt len0 ∧ cnt len0 ≤ 1 := by omega
            have kj : cnt len1 ≤ cnt (len0 + len1) ∧ cnt (len0 + len1) ≤ cnt len1 ∧ 0 ≤ cnt len1 ∧ cnt len1 ≤ 65536 := by omega
            obtain ⟨k0, k0'⟩ := k0
            obtain ⟨kj, kj', k1, k1'⟩ := kj
            clear e0 q0 q1 qj
            go_wp2
            go_ret
            exact ⟨rfl, B6.out⟩
          · have t0 : ((len0 : Int) == 0) = false := by simp [e0]
            by_cases e1 : len1 = 0
            · have t1 : ((len1 : Int) == 0) = true := by simp [e1]
              have k0 : 1 ≤ cnt len1 ∧ cnt len1 ≤ 1 := by omega
              have kj : cnt len0 ≤ cnt (len0 + len1) ∧ cnt (len0 + len1) ≤ cnt len0 ∧ (len0 : Int) ≤ cnt len0 ∧ cnt len0 ≤ len0 := by omega
              obtain ⟨k0, k0'⟩ := k0
              obtain ⟨kj, kj', k1, k1'⟩ := kj
              have t2 : (cnt len0 == (len0 : Int)) = true := by simp; omega
              clear e0 e1 q0 q1 qj
              go_wp2
              go_ret
              exact ⟨rfl, B6.out⟩
            · have t1 : ((len1 : Int) == 0) = false := by simp [e1]
              have kj : cnt len0 + cnt len1 ≤ cnt (len0 + len1) ∧ cnt (len0 + len1) ≤ cnt len0 + cnt len1 ∧ (len0 : Int) ≤ cnt len0 ∧ cnt len0 ≤ len0 ∧ 0 ≤ cnt len1 ∧ cnt len1 ≤ 65536 := by omega
              obtain ⟨kj, kj', k1, k1', k2, k2'⟩ := kj
              have t2 : (cnt len0 == (len0 : Int)) = true := by simp; omega
              clear e0 e1 q0 q1 qj
              go_wp2
              go_ret
              exact ⟨rfl, B6.out⟩

end Go.Proofs.Qxb6614675a
