/- What the walk of 'FnCountAddsOverACut' says of slices, outside the walk. -/
import Derived.Test.Qxb6614675aCalls
import Derived.Laws.CopyOwn
import Derived.Deep.OwnRows
namespace Go.Proofs.Qxb6614675a
open Go.RowKit

/-- A slice that came in and may be read: so many cells, each an int32. -/
def Src (w : World) (p : Option Addr) (len : Nat) : Prop :=
  ∃ cs : List Value, cs.length = len ∧ (∀ v ∈ cs, ∃ z, v = .int .i32 z) ∧ (0 < len → ∃ x, p = some x ∧ x.block < w.heap.size ∧ ∀ j v, cs[j]? = some v → w.cell? (x.add j) = some v)

/-- A slice of the call's own: nil, or a row of int32s in a block between 'lo' and 'hi'. -/
def Own (w : World) (lo hi : Nat) (p : Option Addr) (len : Nat) : Prop :=
  (p = none ∧ len = 0) ∨ ∃ (g : Nat) (f : Nat → Int), p = some ⟨g, 0, none⟩ ∧ lo ≤ g ∧ g < hi ∧ w.rowIs g 21 len (fun i => .int .i32 (f i))

/-- A row of int32s. -/
def Row (w : World) (g n : Nat) : Prop := ∃ f : Nat → Int, w.rowIs g 21 n (fun i => .int .i32 (f i))

theorem Src.below {w w' : World} {p : Option Addr} {len : Nat} (h : Src w p len) (hb : Below w.heap.size w w') : Src w' p len := by
  obtain ⟨cs, h1, h2, h3⟩ := h
  refine ⟨cs, h1, h2, fun hl => ?_⟩
  obtain ⟨x, hx, hlt, hc⟩ := h3 hl
  refine ⟨x, hx, Nat.lt_of_lt_of_le hlt hb.size, fun j v hv => ?_⟩
  rw [hb.cell (p := x.add j) (by unfold Addr.add; split <;> exact hlt)]
  exact hc j v hv

theorem Own.below {w w' : World} {lo hi B : Nat} {p : Option Addr} {len : Nat} (h : Own w lo hi p len) (hB : hi ≤ B) (hb : Below B w w') : Own w' lo hi p len := by
  rcases h with h | ⟨g, f, hp, h1, h2, h3⟩
  · exact .inl h
  · exact .inr ⟨g, f, hp, h1, h2, h3.of_block (hb.block g (by omega))⟩

theorem Own.more {w : World} {lo hi hi' : Nat} {p : Option Addr} {len : Nat} (h : Own w lo hi p len) (hh : hi ≤ hi') : Own w lo hi' p len := by
  rcases h with h | ⟨g, f, hp, h1, h2, h3⟩
  · exact .inl h
  · exact .inr ⟨g, f, hp, h1, by omega, h3⟩

theorem Row.made (w : World) (n : Nat) : Row (w.alloc (.cells (madeCells #[.int .i32 0] n) 21)) w.heap.size n := ⟨fun _ => 0, World.rowIs_made w _ n 21⟩

theorem Row.stored {w : World} {g n : Nat} (h : Row w g n) (i : Nat) (z : Int) : Row (w.setCell ⟨g, i, none⟩ (.int .i32 z)) g n := by
  obtain ⟨f, h⟩ := h
  refine ⟨fun j => if j = i then z else f j, (h.set i _).congr fun j _ => ?_⟩
  by_cases hj : j = i <;> simp [hj]

/-- What a whole copy leaves is a row of int32s. -/
theorem row_spliced {w : World} {g n : Nat} {cs : List Value} (hl : cs.length = n) (hi : ∀ v ∈ cs, ∃ z, v = .int .i32 z)
    (h : w.heap[g]? = some (.cells (splice (madeCells #[.int .i32 0] n).toList 0 cs).toArray 21 (0, 0))) : Row w g n := by
  have e : splice (madeCells #[.int .i32 0] n).toList 0 cs = cs := by
    have : (madeCells #[.int .i32 0] n).size = n := size_madeCells _ _
    simp [splice, hl, this]
  rw [e] at h
  refine ⟨fun i => intOf (cs.getD i (.int .i32 0)), cs.toArray, h, by simpa using hl, fun i hin => ?_⟩
  have hc : i < cs.length := by omega
  obtain ⟨z, hz⟩ := hi cs[i] (List.getElem_mem hc)
  simp [hc, hz, intOf]

theorem oneCells {cs : List Value} (h : ∀ v ∈ cs, ∃ z, v = .int .i32 z) : ∀ v ∈ cs, v.oneCell' = true := by
  intro v hv
  obtain ⟨z, rfl⟩ := h v hv
  rfl

theorem size21 : (Try.prog.info? 21).map (·.size) = some 1 := by kernel_rfl

/-- 'zzc := make([]rune, len(a)); copy(zzc, a)': THE COPY, AS A LAW AT THE CALL. -/
theorem copy_here {ops : Array Oper} {rest : List Oper} {o : Oper} {a : Act} {Q : Exit → Act → World → Prop} (hgd : o.guard = none) (d s : Operand)
    (ho : o.op = .call { callee := .builtin .copy, args := #[d, s], argTypes := #[22, 22] }) (w : World) (x : Addr) (len capS : Nat)
    (hd : a.eval d = .slice (some ⟨w.heap.size, 0, none⟩) len len) (hs : a.eval s = .slice (some x) len capS) (src : Src w (some x) len)
    (h : ∀ w', Row w' w.heap.size len → Below w.heap.size w w' → wpList Try.prog ops Q rest (a.put o.dst (goInt len)) w') :
    wpList Try.prog ops Q (o :: rest) a (w.alloc (.cells (madeCells #[.int .i32 0] len) 21)) := by
  have hb : Below w.heap.size w (w.alloc (.cells (madeCells #[.int .i32 0] len) 21)) := (Below.refl _ _).alloc (Nat.le_refl _) _
  obtain ⟨cs, hl, hi, hx⟩ := src.below hb
  refine wpList_copy_splice hgd d s 22 22 ho 21 Try.underlying22 size21 _ _ _ _ _ _ hd hs w.heap.size 0 (madeCells #[.int .i32 0] len).toList 21 ?_ cs (by simp [hl]) ?_ ?_ (oneCells hi) w.heap.size w hb (Nat.le_refl _) ?_
  · show (w.heap.push _)[w.heap.size]? = _
    simp
  · intro hp
    obtain ⟨y, h1, _, h2⟩ := hx (by omega)
    exact ⟨rfl, y, h1, h2⟩
  · have : (madeCells #[.int .i32 0] len).size = len := size_madeCells _ _
    simp [hl, this]
  · intro w' HG hb'
    have := h w' (row_spliced hl hi HG.out) hb'
    rw [hl]
    exact this

theorem Row.own {w : World} {g len lo : Nat} (h : Row w g len) (hlo : lo ≤ g) : Own w lo w.heap.size (some ⟨g, 0, none⟩) len := by
  obtain ⟨f, h⟩ := h
  exact .inr ⟨g, f, rfl, hlo, h.lt, h⟩

/-- A cell of such a slice, in a later world. -/
theorem Own.cellAt {w w' : World} {lo hi B : Nat} {p : Option Addr} {len : Nat} (h : Own w lo hi p len) (hB : hi ≤ B) (hb : Below B w w') {k : Nat} (hk : k < len) :
    ∃ g z, p = some ⟨g, 0, none⟩ ∧ g < hi ∧ w'.cell? ⟨g, k, none⟩ = some (.int .i32 z) := by
  rcases h with h | ⟨g, f, hp, h1, h2, h3⟩
  · omega
  · exact ⟨g, f k, hp, h2, (h3.of_block (hb.block g (by omega))).cell hk⟩

theorem Row.cellAt {w : World} {g n : Nat} (h : Row w g n) {k : Nat} (hk : k < n) : ∃ z, w.cell? ⟨g, k, none⟩ = some (.int .i32 z) := by
  obtain ⟨f, h⟩ := h
  exact ⟨f k, h.cell hk⟩
theorem Row.free {w : World} {g n : Nat} (h : Row w g n) (k : Nat) : w.frozen? ⟨g, k, none⟩ = false := by
  obtain ⟨f, h⟩ := h
  exact h.frozen k

end Go.Proofs.Qxb6614675a
