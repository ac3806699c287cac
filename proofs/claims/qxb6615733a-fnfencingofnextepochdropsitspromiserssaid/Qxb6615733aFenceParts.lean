/- fencingOf: what its loop keeps, outside the walk. -/
import Derived.Test.Qxb6615733aCp
import Derived.Deep.AppendLies
namespace Go.Proofs.Qxb6615733a
open Go.RowKit

/-- An answered copy that has promised an epoch above E. -/
def nw (E : Int) (z : ZS) : Bool := !z.failed && decide (E < z.prom)
def newer (E : Int) (L : List ZS) : List ZS := L.filter (nw E)
/-- How many did not answer. -/
def unk (L : List ZS) : Nat := (L.filter (·.failed)).length

theorem take_at {L : List ZS} {k : Nat} {z : ZS} (hz : L[k]? = some z) : L.take (k + 1) = L.take k ++ [z] := by
  obtain ⟨hk, rfl⟩ := List.getElem?_eq_some_iff.1 hz
  rw [List.take_succ_eq_append_getElem hk]
theorem newer_yes {E : Int} {L : List ZS} {k : Nat} {z : ZS} (hz : L[k]? = some z) (h : nw E z = true) : newer E (L.take (k + 1)) = newer E (L.take k) ++ [z] := by
  rw [take_at hz]; simp [newer, h]
theorem newer_no {E : Int} {L : List ZS} {k : Nat} {z : ZS} (hz : L[k]? = some z) (h : nw E z = false) : newer E (L.take (k + 1)) = newer E (L.take k) := by
  rw [take_at hz]; simp [newer, h]
theorem unk_yes {L : List ZS} {k : Nat} {z : ZS} (hz : L[k]? = some z) (h : z.failed = true) : unk (L.take (k + 1)) = unk (L.take k) + 1 := by
  rw [take_at hz]; simp [unk, h]
theorem unk_no {L : List ZS} {k : Nat} {z : ZS} (hz : L[k]? = some z) (h : z.failed = false) : unk (L.take (k + 1)) = unk (L.take k) := by
  rw [take_at hz]; simp [unk, h]
theorem newer_le (E : Int) (L : List ZS) : (newer E L).length ≤ L.length := List.length_filter_le _ _
theorem unk_le (L : List ZS) : unk L ≤ L.length := List.length_filter_le _ _

/-- THE LOOP's STATE. -/
def FRel (B : Nat) (w wr : World) (E : Int) (p : Option Addr) (n c : Nat) (N : List ZS) : Prop :=
  ∃ pv cv ys, wr.heap[w.heap.size + 1]? = some (.cells #[.int .u64 E, .slice p n c, .slice pv N.length cv, .bool false, .bool false] 29 (0, 0)) ∧
    wr.heap[w.heap.size]? = some (.cells #[.int .u64 0, .slice none 0 0, .slice none 0 0, .bool false, .bool false] 29 (0, 0)) ∧
    wr.ownsRow (w.heap.size + 2) 42 9 (.slice pv N.length cv) N.length ys ∧ Elems wr (fun g => g < B) N ys ∧ Below w.heap.size w wr

theorem FRel.start (B : Nat) (w : World) (E : Int) (p : Option Addr) (n c : Nat) :
    FRel B w ((w.alloc (.cells #[.int .u64 0, .slice none 0 0, .slice none 0 0, .bool false, .bool false] 29)).alloc (.cells #[.int .u64 E, .slice p n c, .slice none 0 0, .bool false, .bool false] 29)) E p n c [] := by
  refine ⟨none, 0, [], ?_, ?_, World.ownsRow_nil _ _ _ _, rfl, ((Below.refl _ _).alloc (Nat.le_refl _) _).alloc (by simp) _⟩
  · show ((w.heap.push _).push _)[w.heap.size + 1]? = _
    rw [Array.getElem?_push, if_pos (by simp)]
    rfl
  · show ((w.heap.push _).push _)[w.heap.size]? = _
    rw [Array.getElem?_push, if_neg (by simp), Array.getElem?_push, if_pos rfl]

theorem FRel.alloc {B : Nat} {w wr : World} {E : Int} {p : Option Addr} {n c : Nat} {N : List ZS} (h : FRel B w wr E p n c N) (o : Obj) : FRel B w (wr.alloc o) E p n c N := by
  obtain ⟨pv, cv, ys, h1, h2, h3, h4, h5⟩ := h
  have hb : Below wr.heap.size wr (wr.alloc o) := (Below.refl _ _).alloc (Nat.le_refl _) _
  exact ⟨pv, cv, ys, by rw [hb.block _ (lt_of_block h1)]; exact h1, by rw [hb.block _ (lt_of_block h2)]; exact h2, h3.alloc o, h4.below hb, h5.alloc h5.size o⟩

theorem FRel.push {B : Nat} {w wr w1 : World} {E : Int} {p : Option Addr} {n c : Nat} {N : List ZS} {z : ZS} {pv : Option Addr} {cv g cap ge : Nat} {err : Value} {ys : List Value}
    (h1 : wr.heap[w.heap.size + 1]? = some (.cells #[.int .u64 E, .slice p n c, .slice pv N.length cv, .bool false, .bool false] 29 (0, 0)))
    (h2 : wr.heap[w.heap.size]? = some (.cells #[.int .u64 0, .slice none 0 0, .slice none 0 0, .bool false, .bool false] 29 (0, 0)))
    (h3 : wr.ownsRow (w.heap.size + 2) 42 9 (.slice pv N.length cv) N.length ys) (h4 : Elems wr (fun g => g < B) N ys) (h5 : Below w.heap.size w wr)
    (hown : w1.ownsRow (w.heap.size + 2) 42 9 (.slice (some ⟨g, 0, none⟩) (N.length + 1) cap) (N.length + 1) (ys ++ (cs z ge err).toList))
    (hg : wr.grownBy w1 (Value.slice pv N.length cv).ownBlock) (herr : ErrOk z err) (hr : Rng w ge z) (hgb : w.heap.size + 2 ≤ g) (hB : B ≤ w.heap.size) (hgeB : ge < B) :
    FRel B w (w1.setCell ⟨w.heap.size + 1, 2, none⟩ (.slice (some ⟨g, 0, none⟩) (N.length + 1) cap)) E p n c (N ++ [z]) := by
  have hrow : ∀ k, (Value.slice pv N.length cv).ownBlock = some k → w.heap.size + 2 ≤ k := fun k hk => (h3.lt k hk).1
  have hne : ∀ k, k < w.heap.size + 2 → some k ≠ (Value.slice pv N.length cv).ownBlock := fun k hk e => by have := hrow k e.symm; omega
  have b1 : w1.heap[w.heap.size + 1]? = some (.cells #[.int .u64 E, .slice p n c, .slice pv N.length cv, .bool false, .bool false] 29 (0, 0)) := by
    rw [hg.block _ (lt_of_block h1) (hne _ (by omega))]; exact h1
  have b2 : w1.heap[w.heap.size]? = some (.cells #[.int .u64 0, .slice none 0 0, .slice none 0 0, .bool false, .bool false] 29 (0, 0)) := by
    rw [hg.block _ (lt_of_block h2) (hne _ (by omega))]; exact h2
  have s1 := heap_setCell_same w1 (w.heap.size + 1) 2 _ 29 (.slice (some ⟨g, 0, none⟩) (N.length + 1) cap) b1
  have hb1 : Below w.heap.size w w1 := h5.trans ⟨hg.os, hg.tape, hg.output, hg.size, fun k hk => hg.block k (by have := h5.size; omega) (hne _ (by omega))⟩
  have e1 : Elems w1 (fun g => g < B) N ys := h4.kept hg (fun g hg => hne g (by omega))
  have hr1 : Rng w1 ge z := ⟨by have := hr.1; have := hb1.size; omega, fun j hj => by rw [hb1.cell (p := ⟨ge, j, none⟩) hr.1]; exact hr.2 j hj⟩
  have e2 := e1.snoc (z := z) (ys := (cs z ge err).toList) ⟨ge, err, rfl, herr, hr1, hgeB⟩
  have hset : w1.grownBy (w1.setCell ⟨w.heap.size + 1, 2, none⟩ (.slice (some ⟨g, 0, none⟩) (N.length + 1) cap)) (some (w.heap.size + 1)) :=
    ⟨rfl, rfl, rfl, by simp, fun k _ hk => Below.heap_setCell _ _ _ _ (fun e => hk (by rw [e]))⟩
  refine ⟨some ⟨g, 0, none⟩, cap, ys ++ (cs z ge err).toList, ?_, ?_, ?_, ?_, ?_⟩
  · rw [s1]; simp
  · rw [Below.heap_setCell _ _ _ _ (by show w.heap.size ≠ w.heap.size + 1; omega)]; exact b2
  · rw [List.length_append]
    exact hown.kept hset (.inr (by simp only [Value.ownBlock]; intro e; have := Option.some.inj e; omega))
  · exact e2.kept hset (fun q hq e => by have := Option.some.inj e; omega)
  · exact hb1.setCell (p := ⟨w.heap.size + 1, 2, none⟩) (by show w.heap.size ≤ w.heap.size + 1; omega) _

theorem fb_after {w wr W w1 : World} {c : Array Value} {v : Value} {n : Nat} {ys : List Value} (h1 : wr.heap[w.heap.size + 1]? = some (.cells c 29 (0, 0))) (h3 : wr.ownsRow (w.heap.size + 2) 42 9 v n ys)
    (hW : Below wr.heap.size wr W) (hg : W.grownBy w1 v.ownBlock) : w1.heap[w.heap.size + 1]? = some (.cells c 29 (0, 0)) := by
  have hl := lt_of_block h1
  rw [hg.block _ (by have := hW.size; omega) (fun e => by have := (h3.lt _ e.symm).1; omega), hW.block _ hl]
  exact h1
theorem below2 (wr : World) (o1 o2 : Obj) : Below wr.heap.size wr ((wr.alloc o1).alloc o2) := ((Below.refl _ _).alloc (Nat.le_refl _) _).alloc (by simp) _

theorem FRel.push2 {B : Nat} {w wr W w1 : World} {E : Int} {p : Option Addr} {n c : Nat} {N : List ZS} {z : ZS} {pv : Option Addr} {cv g cap ge : Nat} {err : Value} {ys : List Value}
    (h1 : wr.heap[w.heap.size + 1]? = some (.cells #[.int .u64 E, .slice p n c, .slice pv N.length cv, .bool false, .bool false] 29 (0, 0)))
    (h2 : wr.heap[w.heap.size]? = some (.cells #[.int .u64 0, .slice none 0 0, .slice none 0 0, .bool false, .bool false] 29 (0, 0)))
    (h3 : wr.ownsRow (w.heap.size + 2) 42 9 (.slice pv N.length cv) N.length ys) (h4 : Elems wr (fun g => g < B) N ys) (h5 : Below w.heap.size w wr) (hW : Below wr.heap.size wr W)
    (hown : w1.ownsRow (w.heap.size + 2) 42 9 (.slice (some ⟨g, 0, none⟩) (N.length + 1) cap) (N.length + 1) (ys ++ (cs z ge err).toList))
    (hg : W.grownBy w1 (Value.slice pv N.length cv).ownBlock) (herr : ErrOk z err) (hr : Rng w ge z) (hB : B ≤ w.heap.size) (hgeB : ge < B) :
    FRel B w (w1.setCell ⟨w.heap.size + 1, 2, none⟩ (.slice (some ⟨g, 0, none⟩) (N.length + 1) cap)) E p n c (N ++ [z]) :=
  FRel.push (wr := W) (pv := pv) (cv := cv) (ys := ys) (by rw [hW.block _ (lt_of_block h1)]; exact h1) (by rw [hW.block _ (lt_of_block h2)]; exact h2) (own_below h3 hW) (h4.below hW) (h5.trans (hW.mono h5.size)) hown hg herr hr (hown.lt g rfl).1 hB hgeB

theorem news_cells2 (w : World) (o : Obj) (c : Array Value) (t : TypeId) : ∀ (j : Nat) (u : Value), c.toList[j]? = some u → ((w.alloc o).alloc (.cells c t)).cell? ((⟨w.heap.size + 1, 0, none⟩ : Addr).add j) = some u := by
  have h := news_cells (w.alloc o) c t
  simp only [World.size_alloc] at h
  exact h

/-- The row of the newer copies, beside stores into the call's two locals. -/
def Own3 (B : Nat) (w0 w : World) (v : Value) (N : List ZS) (ys : List Value) : Prop :=
  w.ownsRow (w0.heap.size + 2) 42 9 v N.length ys ∧ Elems w (fun g => g < B) N ys ∧ Below w0.heap.size w0 w
theorem Own3.set {B : Nat} {w0 w : World} (hB : B ≤ w0.heap.size) {v : Value} {N : List ZS} {ys : List Value} (h : Own3 B w0 w v N ys) (a : Addr) (ha : a.block = w0.heap.size ∨ a.block = w0.heap.size + 1) (u : Value) : Own3 B w0 (w.setCell a u) v N ys := by
  obtain ⟨h1, h2, h3⟩ := h
  have hset : w.grownBy (w.setCell a u) (some a.block) :=
    ⟨rfl, rfl, rfl, by simp, fun k _ hk => Below.heap_setCell _ _ _ _ (fun e => hk (by rw [e]))⟩
  refine ⟨h1.kept hset ?_, h2.kept hset (fun q hq e => by have := Option.some.inj e; omega), h3.setCell (by omega) u⟩
  cases hv : v.ownBlock with
  | none => exact .inl rfl
  | some k => exact .inr (fun e => by have := (h1.lt k hv).1; have := Option.some.inj e; omega)

end Go.Proofs.Qxb6615733a
