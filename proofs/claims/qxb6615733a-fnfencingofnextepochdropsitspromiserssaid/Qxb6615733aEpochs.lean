/- zzEpochs: a new row that holds the caller's ranges. -/
import Derived.Test.Qxb6615733aProg
import Derived.Test.Qxb6615733aParts
import Derived.WalkSpells
import Derived.WalkLawsBesides
import Derived.Outline
import Derived.Deep.DeepCutAuto
import Derived.RegionTactic
import Derived.ChangeAlike
namespace Go.Proofs.Qxb6615733a
open Go.RowKit

theorem info51 : (Try.prog.info? 51).map (fun i => (i.zero, i.size, i.bytes)) = some (some (.agg #[.int .u64 0, .int .u64 0]), 2, 16) := by kernel_rfl

/-- The row at 'g' of '2 n' cells, whose first 'm' are the numbers 'es'. -/
def Filled (w : World) (g n m : Nat) (es : Nat → Int) : Prop :=
  ∃ cur : Array Value, w.heap[g]? = some (.cells cur 51 (0, 0)) ∧ cur.size = 2 * n ∧ (∀ j, j < m → cur[j]? = some (.int .u64 (es j))) ∧ ∀ j, j < 2 * n → ∃ v, cur[j]? = some (.int .u64 v)

theorem made_filled {w w' : World} {n : Nat} {es : Nat → Int} (h : w'.ownsRow w.heap.size 51 2 (.slice (some ⟨w.heap.size, 0, none⟩) n n) n (madeCells (Value.agg #[.int .u64 0, .int .u64 0]).cells (n * 2)).toList) :
    Filled w' w.heap.size n 0 es := by
  obtain ⟨_, h⟩ := h
  rcases h with ⟨h, _⟩ | ⟨g, cap, cur, hv, _, hg, h1, _, h2, h3⟩
  · cases h
  · simp only [Value.slice.injEq, Option.some.injEq, Addr.mk.injEq, and_true, true_and] at hv
    obtain ⟨rfl, rfl⟩ := hv
    refine ⟨cur, hg, by omega, fun j hj => by omega, fun j hj => ⟨0, ?_⟩⟩
    have e : cur.toList = (madeCells (Value.agg #[.int .u64 0, .int .u64 0]).cells (n * 2)).toList := by
      rw [← h3, List.take_of_length_le (by simp [h2])]
    have e2 : cur = madeCells (Value.agg #[.int .u64 0, .int .u64 0]).cells (n * 2) := Array.toList_inj.1 e
    rw [e2]
    have hj' : j < n * 2 := by omega
    simp only [madeCells, Value.cells, Array.getElem?_map, Array.getElem?_range, hj', if_true, Option.map_some]
    rcases Nat.mod_two_eq_zero_or_one j with h | h <;> simp [h]

theorem Filled.step {w : World} {g n k : Nat} {es : Nat → Int} (h : Filled w g n (2 * k) es) (hk : k < n) :
    Filled ((w.setCell ⟨g, k * 2, none⟩ (.int .u64 (es (2 * k)))).setCell ⟨g, k * 2 + 1, none⟩ (.int .u64 (es (2 * k + 1)))).drew g n (2 * (k + 1)) es := by
  obtain ⟨cur, hg, hsz, hlo, hall⟩ := h
  have h1 := heap_setCell_same w g (k * 2) cur 51 (.int .u64 (es (2 * k))) hg
  have h2 := heap_setCell_same _ g (k * 2 + 1) _ 51 (.int .u64 (es (2 * k + 1))) h1
  have key : ∀ j, j < 2 * n → ((cur.setIfInBounds (k * 2) (.int .u64 (es (2 * k)))).setIfInBounds (k * 2 + 1) (.int .u64 (es (2 * k + 1))))[j]? = if j = k * 2 ∨ j = k * 2 + 1 then some (.int .u64 (es j)) else cur[j]? := by
    intro j hj
    rw [Array.getElem?_setIfInBounds, Array.getElem?_setIfInBounds]
    by_cases a : k * 2 + 1 = j
    · subst a
      rw [if_pos rfl, if_pos (by simp; omega), if_pos (by omega)]
      rw [show 2 * k + 1 = k * 2 + 1 from by omega]
    · rw [if_neg a]
      by_cases b : k * 2 = j
      · subst b
        rw [if_pos rfl, if_pos (by omega), if_pos (by omega), show 2 * k = k * 2 from by omega]
      · rw [if_neg b, if_neg (by omega)]
  refine ⟨_, h2, by simp [hsz], ?_, ?_⟩
  · intro j hj
    rw [key j (by omega)]
    split
    · rfl
    · exact hlo j (by omega)
  · intro j hj
    rw [key j hj]
    split
    · exact ⟨_, rfl⟩
    · exact hall j hj

set_option maxHeartbeats 400000 in
theorem epochs_any (z : ZS) (w : World) (hn : z.n ≤ 65536) (ha : Arg w z) :
    Calls Try.prog 14 #[.slice z.ep z.n z.cap] w fun e w' => e = .returned (.slice (some ⟨w.heap.size, 0, none⟩) z.n z.n) ∧ Below w.heap.size w w' ∧ w.heap.size < w'.heap.size ∧ ∀ j, j < 2 * z.n → w'.cell? ⟨w.heap.size, j, none⟩ = some (.int .u64 (z.es j)) := by
  obtain ⟨i0, hi, hz0, hz1, hz2⟩ := info_parts info51
  obtain ⟨n, hnn⟩ : ∃ n, n = z.n := ⟨_, rfl⟩
  obtain ⟨ep, hep⟩ : ∃ ep, ep = z.ep := ⟨_, rfl⟩
  obtain ⟨es, hes⟩ : ∃ es, es = z.es := ⟨_, rfl⟩
  have HA : Hid (∀ j, j < 2 * n → ∃ b off, ep = some ⟨b, off, none⟩ ∧ b < w.heap.size ∧ w.cell? ⟨b, off + j, none⟩ = some (.int .u64 (es j))) := by
    rw [hnn, hep, hes]; exact ha
  rw [← hnn] at hn
  rw [← hnn, ← hep, ← hes]
  clear ha hnn hep hes
  go_enter Try.func14, Try.ntmps14
  go_wp2_with (at_make; refine wpList_make_full _ rfl _ _ 36 rfl w.heap.size 51 i0 _ 2 Try.underlying36 hi hz0 hz1 _ _ _ _ n rfl rfl rfl rfl (by rw [hz2]; omega) (by unfold maxLen; omega) (Nat.le_refl _) ?_; intro w1 hown hgrow)
  have HF := hide (made_filled (es := es) hown)
  have HB := hide ((Below.refl w.heap.size w).grown hgrow (Nat.le_refl _) (by intro k hk; cases hk))
  clear hown hgrow
  go_loopg [4] n (fun g i wr => ∃ k : Nat, k + g = n ∧ i = .int .i64 k ∧ Filled wr w.heap.size n (2 * k) es ∧ Below w.heap.size w wr)
  case atStart => exact ⟨0, by omega, rfl, HF.out, HB.out⟩
  case round =>
    obtain ⟨k, hk, rfl, hf, hb⟩ := hrel
    clear HF HB
    by_cases hlt : k < n
    · obtain ⟨b, off, rfl, hbs, he⟩ := HA.out (2 * k) (by omega)
      obtain ⟨b', off', h', _, hf1⟩ := HA.out (2 * k + 1) (by omega)
      cases h'
      have he0 : wr.cell? ⟨b, off + k * 2, none⟩ = some (.int .u64 (es (2 * k))) := by
        rw [hb.cell (p := ⟨b, off + k * 2, none⟩) hbs, show off + k * 2 = off + 2 * k from by omega]; exact he
      have he1 : wr.cell? ⟨b, off + k * 2 + 1, none⟩ = some (.int .u64 (es (2 * k + 1))) := by
        rw [hb.cell (p := ⟨b, off + k * 2 + 1, none⟩) hbs, show off + k * 2 + 1 = off + (2 * k + 1) from by omega]; exact hf1
      clear he hf1
      have HS := hide (hf.step hlt)
      obtain ⟨cur, hg, hsz, hlo, hall⟩ := hf
      obtain ⟨v0, hv0⟩ := hall (2 * k) (by omega)
      obtain ⟨v1, hv1⟩ := hall (2 * k + 1) (by omega)
      have g0 : wr.cell? ⟨w.heap.size, k * 2, none⟩ = some (.int .u64 v0) := by
        simp only [World.cell?, hg]; rw [show k * 2 = 2 * k from by omega]; exact hv0
      have g1 : wr.cell? ⟨w.heap.size, k * 2 + 1, none⟩ = some (.int .u64 v1) := by
        simp only [World.cell?, hg]; rw [show k * 2 + 1 = 2 * k + 1 from by omega]; exact hv1
      have f0 : wr.frozen? ⟨w.heap.size, k * 2, none⟩ = false := by simp [World.frozen?, hg]
      have f1 : wr.frozen? ⟨w.heap.size, k * 2 + 1, none⟩ = false := by simp [World.frozen?, hg]
      have HB := hide (((hb.setCell (p := ⟨w.heap.size, k * 2, none⟩) (Nat.le_refl _) (.int .u64 (es (2 * k)))).setCell (p := ⟨w.heap.size, k * 2 + 1, none⟩) (Nat.le_refl _) (.int .u64 (es (2 * k + 1)))).drew)
      clear hg hlo hall hv0 hv1 hb HA hsz
      have l1 : (k : Int) < (n : Int) := by omega
      have l2 : ¬ b = w.heap.size := by omega
      go_wp2
      go_region
      go_wp2
      go_roundg (gk - 1)
      case measure => omega
      case rel => exact ⟨k + 1, by omega, by go_num, HS.out, HB.out⟩
    · have ek : k = n := by omega
      have HE : Hid (∀ j, j < 2 * n → wr.cell? ⟨w.heap.size, j, none⟩ = some (.int .u64 (es j))) := by
        obtain ⟨cur, hg, _, hlo, _⟩ := hf
        intro j hj
        simp only [World.cell?, hg]
        exact hlo j (by omega)
      have HS : Hid (w.heap.size < wr.heap.size) := by
        obtain ⟨cur, hg, _⟩ := hf
        exact lt_of_block hg
      have HB := hide hb
      clear hf hb ek HA
      go_wp2
      go_ret
      exact ⟨rfl, HB.out, HS.out, HE.out⟩

end Go.Proofs.Qxb6615733a
