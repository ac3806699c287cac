/- The law's argument, []ZState, opened: what the form's reading says of its cells. -/
import Derived.Test.Qxb6615733aProg
import Derived.Test.Qxb6615733aParts
import Derived.Deep.Slices
namespace Go.Proofs.Qxb6615733a
open Go.RowKit Go.ChangeShapes Go.WideShapes Go.Deep

theorem cells45 : Try.prog.cellsOf 45 = 9 := by kernel_rfl
theorem cells9 : Try.prog.cellsOf 9 = 1 := by kernel_rfl
theorem cells23 : Try.prog.cellsOf 23 = 1 := by kernel_rfl
theorem cells43 : Try.prog.cellsOf 43 = 1 := by kernel_rfl
theorem cells4 : Try.prog.cellsOf 4 = 1 := by kernel_rfl
theorem cells53 : Try.prog.cellsOf 53 = 2 := by kernel_rfl

theorem nine_list {α : Type} {l : List α} (h : l.length = 9) : ∃ a b c d e f g i j, l = [a, b, c, d, e, f, g, i, j] := by
  match l, h with
  | [a, b, c, d, e, f, g, i, j], _ => exact ⟨a, b, c, d, e, f, g, i, j, rfl⟩
theorem two_list {α : Type} {l : List α} (h : l.length = 2) : ∃ a b, l = [a, b] := by
  match l, h with
  | [a, b], _ => exact ⟨a, b, rfl⟩

section
variable {H : Type} {enc : TypeId × Value → H} {W : World}

/-- A row of cells of a bare address. -/
theorem add_bare {a : Addr} (h : a.spot = none) (n : Nat) : a.add n = ⟨a.block, a.off + n, none⟩ := by
  obtain ⟨b, o, s⟩ := a
  simp only at h
  subst h
  unfold Addr.add
  split
  · rename_i h; simp [h]
  · rfl

/-- Each field of a struct has a reading. -/
theorem struct_fields {fuel : Nat} {t : TypeId} {cs : List Value} {x : DataW H × List MemPlace} {fs : Array Field} (ht : Try.prog.underlying t = some (.struct fs)) (h : DataW.trod enc Try.prog W 0 (fun _ => true) true fuel t cs = some x) :
    ∃ n, ∀ (i : Nat) (T o : Nat), (fs[i]?).map (fun f => (f.type, f.offset)) = some (T, o) → ∃ y, DataW.trod enc Try.prog W 0 (fun _ => true) true n T ((cs.drop o).take (Try.prog.cellsOf T)) = some y := by
  obtain ⟨xs, n, _, _, _, hl, hf⟩ := DataW.trod_struct ht h
  refine ⟨n, fun i T o hm => ?_⟩
  obtain ⟨f, hi, he⟩ := Option.map_eq_some_iff.1 hm
  simp only [Prod.mk.injEq] at he
  obtain ⟨rfl, rfl⟩ := he
  have hlt : i < xs.length := by
    rw [hl]
    exact (Array.getElem?_eq_some_iff.1 hi).1
  exact ⟨xs[i], by rw [hf i f hi]; exact List.getElem?_eq_getElem hlt⟩

/-- The ranges: '[]ZRange' in a field. -/
theorem open_ranges {fuel : Nat} {v : Value} {x : DataW H × List MemPlace} (h : DataW.trod enc Try.prog W 0 (fun _ => true) true fuel 43 [v] = some x) :
    ∃ (p : Option Addr) (n cap : Nat) (es : Nat → Int), v = .slice p n cap ∧ n ≤ maxLen ∧ ∀ j, j < 2 * n → ∃ b off, p = some ⟨b, off, none⟩ ∧ b < W.heap.size ∧ W.cell? ⟨b, off + j, none⟩ = some (.int .u64 (es j)) := by
  rcases open_slice Try.underlying43 h with ⟨hcs, _⟩ | ⟨a, len, cap, m, n, D, Pl, hcs, _, hl, hm, hmm, _, hx⟩
  · simp only [List.cons.injEq, and_true] at hcs
    exact ⟨none, 0, 0, fun _ => 0, hcs, by unfold maxLen; omega, fun j hj => by omega⟩
  · simp only [List.cons.injEq, and_true] at hcs
    rw [cells53] at hx
    have hmc : m = cap := by simpa using hmm
    have each : ∀ j, j < 2 * len → ∃ u : Int, a.spot = none ∧ W.cell? (a.add j) = some (.int .u64 u) := by
      intro j hj
      obtain ⟨cs', h1, h2⟩ := hx (j / 2) (by omega)
      obtain ⟨_, hlen, hcell⟩ := World.cells?_some h1
      obtain ⟨c0, c1, rfl⟩ := two_list hlen
      obtain ⟨k, hf⟩ := struct_fields Try.underlying53 h2
      obtain ⟨y0, t0⟩ := hf 0 23 0 rfl
      obtain ⟨y1, t1⟩ := hf 1 23 1 rfl
      rw [cells23] at t0 t1
      obtain ⟨u0, e0, _⟩ := DataW.trod_int Try.underlying23 t0
      obtain ⟨u1, e1, _⟩ := DataW.trod_int Try.underlying23 t1
      simp at e0 e1
      subst e0 e1
      have k0 := hcell 0 (by omega)
      have k1 := hcell 1 (by omega)
      rw [add_add] at k0 k1
      have hs : a.spot = none := by
        obtain ⟨cs', h1, _⟩ := hx 0 (by omega)
        obtain ⟨_, hlen, hcell⟩ := World.cells?_some h1
        obtain ⟨c0, c1, rfl⟩ := two_list hlen
        have := hcell 0 (by omega)
        have := World.cell?_spot (v := c0) (by simpa using this)
        simpa [Addr.add] using this
      rcases Nat.mod_two_eq_zero_or_one j with hj2 | hj2
      · refine ⟨u0, hs, ?_⟩
        rw [show j = j / 2 * 2 + 0 from by omega]
        simpa using k0
      · refine ⟨u1, hs, ?_⟩
        rw [show j = j / 2 * 2 + 1 from by omega]
        simpa using k1
    obtain ⟨es, hes⟩ := choose_lt (α := Int) each
    refine ⟨some a, len, cap, es, hcs, by omega, fun j hj => ?_⟩
    obtain ⟨hs, hc⟩ := hes j hj
    rw [add_bare hs] at hc
    refine ⟨a.block, a.off, ?_, block_lt_of_cell (a := ⟨a.block, a.off + j, none⟩) hc, hc⟩
    obtain ⟨b, o, s⟩ := a
    simp only at hs
    subst hs
    rfl

/-- ONE ZState: its nine cells, its ranges. -/
theorem open_state {fuel : Nat} {a : Addr} {cs' : List Value} {x : DataW H × List MemPlace} (h1 : W.cells? 0 a 9 = some cs') (h : DataW.trod enc Try.prog W 0 (fun _ => true) true fuel 45 cs' = some x) :
    ∃ z : ZS, a.spot = none ∧ Nine W a.block a.off z ∧ Arg W z ∧ z.n ≤ maxLen ∧ z.id.size ≤ maxLen ∧ z.addr.size ≤ maxLen := by
  obtain ⟨_, hlen, hcell⟩ := World.cells?_some h1
  obtain ⟨v0, v1, v2, v3, v4, v5, v6, v7, v8, rfl⟩ := nine_list hlen
  obtain ⟨k, hf⟩ := struct_fields Try.underlying45 h
  obtain ⟨y0, t0⟩ := hf 0 9 0 rfl
  obtain ⟨y1, t1⟩ := hf 1 9 1 rfl
  obtain ⟨y2, t2⟩ := hf 2 23 2 rfl
  obtain ⟨y3, t3⟩ := hf 3 23 3 rfl
  obtain ⟨y4, t4⟩ := hf 4 23 4 rfl
  obtain ⟨y5, t5⟩ := hf 5 43 5 rfl
  obtain ⟨y6, t6⟩ := hf 6 23 6 rfl
  obtain ⟨y7, t7⟩ := hf 7 4 7 rfl
  obtain ⟨y8, t8⟩ := hf 8 4 8 rfl
  rw [cells9] at t0 t1
  rw [cells23] at t2 t3 t4 t6
  rw [cells43] at t5
  rw [cells4] at t7 t8
  obtain ⟨s0, e0, _, z0⟩ := DataW.trod_string Try.underlying9 t0
  obtain ⟨s1, e1, _, z1⟩ := DataW.trod_string Try.underlying9 t1
  obtain ⟨u2, e2, _⟩ := DataW.trod_int Try.underlying23 t2
  obtain ⟨u3, e3, _⟩ := DataW.trod_int Try.underlying23 t3
  obtain ⟨u4, e4, _⟩ := DataW.trod_int Try.underlying23 t4
  obtain ⟨u6, e6, _⟩ := DataW.trod_int Try.underlying23 t6
  obtain ⟨u7, e7, _⟩ := DataW.trod_bool Try.underlying4 t7
  obtain ⟨u8, e8, _⟩ := DataW.trod_bool Try.underlying4 t8
  obtain ⟨p, n, cap, es, e5, hn, hes⟩ := open_ranges (v := v5) t5
  simp at e0 e1 e2 e3 e4 e6 e7 e8
  subst e0 e1 e2 e3 e4 e5 e6 e7 e8
  have hs : a.spot = none := by
    have := World.cell?_spot (v := .string s0) (by simpa using hcell 0 (by omega))
    simpa [Addr.add] using this
  refine ⟨⟨s0, s1, u2, u3, u4, p, n, cap, es, u6, u7, u8⟩, hs, ?_, hes, hn, z0, z1⟩
  have key : ∀ i, i < 9 → W.cell? ⟨a.block, a.off + i, none⟩ = [Value.string s0, .string s1, .int .u64 u2, .int .u64 u3, .int .u64 u4, .slice p n cap, .int .u64 u6, .bool u7, .bool u8][i]? := fun i hi => by rw [← add_bare hs]; exact hcell i hi
  exact ⟨key 0 (by omega), key 1 (by omega), key 2 (by omega), key 3 (by omega), key 4 (by omega), key 5 (by omega), key 6 (by omega), key 7 (by omega), key 8 (by omega)⟩

/-- THE ARGUMENT. -/
theorem open_states {fuel : Nat} {p : Option Addr} {len cap : Nat} {x : DataW H × List MemPlace} (h : DataW.trod enc Try.prog W 0 (fun _ => true) true fuel 22 [.slice p len cap] = some x) :
    ∃ L : List ZS, L.length = len ∧ len ≤ maxLen ∧ Sts W p L := by
  rcases open_slice Try.underlying22 h with ⟨hcs, _⟩ | ⟨a, len', cap', m, n, D, Pl, hcs, _, hl, hm, hmm, _, hx⟩
  · simp only [List.cons.injEq, Value.slice.injEq, and_true] at hcs
    obtain ⟨rfl, rfl, rfl⟩ := hcs
    exact ⟨[], rfl, by unfold maxLen; omega, fun i z hz => by simp at hz⟩
  · simp only [List.cons.injEq, Value.slice.injEq, and_true] at hcs
    obtain ⟨rfl, rfl, rfl⟩ := hcs
    rw [cells45] at hx
    have hmc : m = cap := by simpa using hmm
    have each : ∀ i, i < len → ∃ z : ZS, a.spot = none ∧ Nine W a.block (a.off + i * 9) z ∧ Arg W z ∧ z.n ≤ maxLen ∧ z.id.size ≤ maxLen ∧ z.addr.size ≤ maxLen := by
      intro i hi
      have hs : a.spot = none := by
        obtain ⟨cs', h1, h2⟩ := hx 0 (by omega)
        obtain ⟨z, hs, _⟩ := open_state h1 h2
        simpa [Addr.add] using hs
      obtain ⟨cs', h1, h2⟩ := hx i (by omega)
      rw [add_bare hs] at h1
      obtain ⟨z, _, hz⟩ := open_state h1 h2
      exact ⟨z, hs, hz⟩
    have pick : ∀ k, k ≤ len → ∃ L : List ZS, L.length = k ∧ ∀ (i : Nat) (z : ZS), L[i]? = some z → a.spot = none ∧ Nine W a.block (a.off + i * 9) z ∧ Arg W z ∧ z.n ≤ maxLen ∧ z.id.size ≤ maxLen ∧ z.addr.size ≤ maxLen := by
      intro k
      induction k with
      | zero => intro _; exact ⟨[], rfl, fun i z hz => by simp at hz⟩
      | succ k ih =>
        intro hk
        obtain ⟨L, hL, hall⟩ := ih (by omega)
        obtain ⟨z, hz⟩ := each k (by omega)
        refine ⟨L ++ [z], by simp [hL], fun i y hy => ?_⟩
        by_cases hi : i < L.length
        · rw [List.getElem?_append_left hi] at hy
          exact hall i y hy
        · have hik : i = k := by
            have := (List.getElem?_eq_some_iff.1 hy).1
            simp at this
            omega
          subst hik
          rw [List.getElem?_append_right (by omega), hL] at hy
          simp at hy
          subst hy
          exact hz
    obtain ⟨L, hL, hall⟩ := pick len (Nat.le_refl _)
    refine ⟨L, hL, by omega, fun i z hz => ?_⟩
    obtain ⟨hs, hrest⟩ := hall i z hz
    refine ⟨a.block, a.off, ?_, hrest⟩
    obtain ⟨b, o, s⟩ := a
    simp only at hs
    subst hs
    rfl

end
end Go.Proofs.Qxb6615733a
