/-
  THE SHELL OF A PROOF OF 'Rows.FnLooksNumericSplitsAtThePointSaid' ('example.com/lineform/lineform/zzlaws_root_b1.FnLooksNumericSplitsAtThePoint'), WRITTEN BY PROGRAM (proof-skeleton.mjs) off the guide's own print for that function.
  THE WALK IS FILLED. ALL ELSE IS THE GUIDE's TEMPLATE (howto/template/XProofs.lean) at this function's number and types: leave it.
-/
import Derived.Test.Qxb6614849aRows
import Derived.WalkKit
import Derived.ProofKit
import Derived.OpenShut
import Derived.ShutString
import Derived.Test.Qxb6614849aPtWalk
namespace Go.Proofs.Qxb6614849a.fnLooksNumericSplitsAtThePoint
open Go.ChangeShapes Go.WideShapes Go.ChangeAt Go.RowKit
open Go.ChangeMaps (open_string shut_string)
set_option linter.unusedVariables false      -- a walk need not use every 'w<i>' (that an integer argument fits its kind)

theorem own : ownKnob Try.prog.godebug = none := by kernel_rfl

/-- Beyond a bound: true at once. -/
theorem early (a0 a1 : ByteArray) (w : World) (w0 : a0.size ≤ maxLen) (w1 : a1.size ≤ maxLen) (hb : ¬ a0.size + a1.size ≤ 1048576) :
    Calls Try.prog 4 #[.string a0, .string a1] w fun e w' => e = .returned (.bool true) ∧ w = w' := by
  have hby := fun wx => bytes_pt a0 a1 wx w0 w1
  rw [decide_eq_false hb] at hby
  have HB := hide hby
  clear hby hb w0 w1
  go_enter Try.func4, Try.ntmps4
  go_wp2_with (go_at_call 9; refine (HB.out _).mono ?_; rintro e w' ⟨rfl, rfl⟩)
  go_ret
  exact ⟨rfl, rfl⟩
theorem early0 (a0 a1 : ByteArray) (w : World) (hb : a0.size + a1.size ≤ 1048576) (c0 : ¬ a0.size ≤ 65536) :
    Calls Try.prog 4 #[.string a0, .string a1] w fun e w' => e = .returned (.bool true) ∧ w = w' := by
  have hby := fun wx => bytes_pt a0 a1 wx (by unfold maxLen; omega) (by unfold maxLen; omega)
  rw [decide_eq_true hb] at hby
  have HB := hide hby
  have l0 : (65536 : Int) < (a0.size : Int) := by omega
  clear hby hb c0
  go_enter Try.func4, Try.ntmps4
  go_wp2_with (go_at_call 9; refine (HB.out _).mono ?_; rintro e w' ⟨rfl, rfl⟩)
  go_ret
  exact ⟨rfl, rfl⟩
theorem early1 (a0 a1 : ByteArray) (w : World) (hb : a0.size + a1.size ≤ 1048576) (c0 : a0.size ≤ 65536) (c1 : ¬ a1.size ≤ 65536) :
    Calls Try.prog 4 #[.string a0, .string a1] w fun e w' => e = .returned (.bool true) ∧ w = w' := by
  have hby := fun wx => bytes_pt a0 a1 wx (by unfold maxLen; omega) (by unfold maxLen; omega)
  rw [decide_eq_true hb] at hby
  have HB := hide hby
  have l0 : ¬ (65536 : Int) < (a0.size : Int) := by omega
  have l1 : (65536 : Int) < (a1.size : Int) := by omega
  clear hby hb c0 c1
  go_enter Try.func4, Try.ntmps4
  go_wp2_with (go_at_call 9; refine (HB.out _).mono ?_; rintro e w' ⟨rfl, rfl⟩)
  go_ret
  exact ⟨rfl, rfl⟩
theorem bs_join (a b : ByteArray) (x : UInt8) : bs (a ++ ⟨#[x]⟩ ++ b) = bs a ++ x :: bs b := by
  simp [bs]
theorem size_join (a b : ByteArray) (x : UInt8) : (a ++ ⟨#[x]⟩ ++ b).size = a.size + 1 + b.size := by
  rw [ByteArray.size_append, ByteArray.size_append]; rfl
theorem within (p q : ByteArray) (w : World) (h0 : p.size ≤ 65536) (h1 : q.size ≤ 65536) :
    Calls Try.prog 4 #[.string p, .string q] w fun e w' => e = .returned (.bool true) ∧ w = w' := by
  refine pt_core p q (ln (bs p)) (ln (bs q)) (hasB 46 46 (bs q)) (sd (bs p)) (sd (bs q)) (startsD (bs q)) (sd (bs p) && startsD (bs q) && !hasB 46 46 (bs q) && ln (bs q)) w h0 h1 ?_ ?_ ?_ ?_ ?_ ?_ ?_ ?_ ?_ rfl ln_of_sd ln_of_sd
  · intro wx
    have := bytes_pt p q wx (by unfold maxLen; omega) (by unfold maxLen; omega)
    rwa [decide_eq_true (by omega)] at this
  · intro wx
    have := zzlooks_any (p ++ ⟨#[46]⟩ ++ q) wx (by rw [size_join]; omega)
    rwa [bs_join, split_pt (bs p) (bs q)] at this
  · intro wx; exact zzlooks_any p wx (by omega)
  · intro wx; exact zzlooks_any q wx (by omega)
  · intro wx; exact hasbyte_any q 46 46 46 46 rfl rfl wx (by omega)
  · intro wx; exact signed_any p wx (by omega)
  · intro wx; exact signed_any q wx (by omega)
  · intro h
    have := starts_yes (s := q) (k := 0) h
    rw [List.drop_zero] at this
    exact this.symm
  · intro h
    have := starts_end (s := q) (k := 0) h
    rwa [List.drop_zero] at this

/-! ### STEP 1: THE WALK: the Go text returns true. 'Grown w w'': the world has at most new blocks (Derived/RowKit3.lean). Part the cases AHEAD of 'go_enter' where a test parts the walk; take each callee by a contract of your own. -/
theorem walk (a0 : ByteArray) (a1 : ByteArray) (w0 : a0.size ≤ maxLen) (w1 : a1.size ≤ maxLen) (w : World) :
    Calls Try.prog 4 #[.string a0, .string a1] w fun e w' => e = .returned (.bool true) ∧ Grown w w' := by
  have key : Calls Try.prog 4 #[.string a0, .string a1] w fun e w' => e = .returned (.bool true) ∧ w = w' := by
    by_cases hb : a0.size + a1.size ≤ 1048576
    · by_cases c0 : a0.size ≤ 65536
      · by_cases c1 : a1.size ≤ 65536
        · exact within a0 a1 w c0 c1
        · exact early1 a0 a1 w hb c0 c1
      · exact early0 a0 a1 w hb c0
    · exact early a0 a1 w w0 w1 hb
  refine key.mono ?_
  rintro e w' ⟨rfl, rfl⟩
  exact ⟨rfl, Grown.refl _⟩

/-! ### THE ROW's STEP: WRITTEN OUT: LEAVE IT -/
set_option maxRecDepth 100000 in
theorem lifted (os : Os) (started : os.Started) (H : Type) (enc : TypeId × Value → H) :
    ReturnsInHanded {} Try.checked os 4 .any (Rows.fnLooksNumericSplitsAtThePointSpec.pre6 enc Try.prog Try.f4 Rows.fnLooksNumericSplitsAtThePointRow.domain false) (Rows.fnLooksNumericSplitsAtThePointSpec.post enc Try.prog Try.f4 false true false false) := by
  refine returnsInHanded_of_change (C := Try.checked) own started (by kernel_rfl) Try.func4
    (ChangeSpec.witness6 (enc := enc) (C := Try.checked) false ⟨#[], #[.string ByteArray.empty, .string ByteArray.empty], []⟩ 8 (by kernel_rfl) (by kernel_rfl) (by kernel_rfl) (by kernel_rfl)) ?_
  intro W base args ds gs before hval0 hW hcnd _
  have hval : ∀ (j : Nat) t v, Try.f4.params[j]? = some t → args[j]? = some v → Value.okWide Try.prog W .any base t v := hval0
  have hW' := hW
  obtain ⟨p, q, hA0, hV, rfl, hfz, hnd⟩ := hW
  have hA : DataW.TrodAll enc Try.prog W 0 (fun _ => true) true Try.f4.params.toList args.toList ds p := hA0
  rw [Try.params4] at hA hval
  obtain ⟨v0, vs0, d0, ds0, p0, q0, hargs, rfl, rfl, h0, r0⟩ := trodAll_cons hA
  obtain ⟨v1, vs1, d1, ds1, p1, q1, rfl, rfl, rfl, h1, r1⟩ := trodAll_cons r0
  obtain ⟨rfl, rfl, rfl⟩ := trodAll_nil r1
  obtain rfl : args = #[v0, v1] := by cases args; simp_all
  obtain ⟨rfl, rfl⟩ := trodVars_none hV
  obtain ⟨a0, rfl, rfl, rfl, w0⟩ := open_string Try.underlying9 (hval 0 9 v0 rfl rfl) h0
  obtain ⟨a1, rfl, rfl, rfl, w1⟩ := open_string Try.underlying9 (hval 1 9 v1 rfl rfl) h1
  clear hA0 hval0
  simp only [List.append_nil] at hW'
  refine (walk a0 a1 w0 w1 W).mono fun e W' ⟨he, hg⟩ => ?_
  subst he
  exact ⟨_, rfl, post_of_same (pa := []) (pv := []) hW' (fun _ _ _ => (trodAll_cons_mk (shut_bool Try.underlying4 _) trodAll_mk0)) (fun sp _ => (trodAll_cons_mk (shut_string Try.underlying9 w0) (trodAll_cons_mk (shut_string Try.underlying9 w1) trodAll_mk0))) (fun _ _ => rfl) rfl
    (hg.frame _) hg.2.1 (ok_one (by kernel_rfl) rfl (okWide_bool_mk Try.underlying4 _))⟩

theorem over : Rows.fnLooksNumericSplitsAtThePointRow.holds Try.pinned (OpenSpec.ofChange Rows.fnLooksNumericSplitsAtThePointSpec) :=
  OpenClaim.holds_of_wide 4 Try.f4 rfl rfl rfl rfl rfl rfl rfl ⟨rfl, rfl, rfl, rfl, rfl⟩ rfl rfl rfl rfl rfl (by kernel_rfl) Try.func4 (by kernel_rfl)
    (of_decide_eq_true (by kernel_rfl)) (by unfold Func.isWrapper; first | (rw [if_pos (by decide +kernel)]; kernel_rfl) | (rw [if_neg (by decide +kernel)]; exact ⟨rfl, rfl⟩))
    (fun os started H enc _ => lifted os started H enc)

/-- ████ THE STATEMENT ████ -/
theorem proved : Rows.FnLooksNumericSplitsAtThePointSaid :=
  over
#print axioms proved
end Go.Proofs.Qxb6614849a.fnLooksNumericSplitsAtThePoint
