/- ZZanswered, ZZfailedState: one CopyState by value. -/
import Derived.Test.Qxb6615733aProg
import Derived.Test.Qxb6615733aParts
import Derived.WalkSpells
import Derived.WalkLawsBesides
import Derived.Outline
import Derived.Deep.DeepCutAuto
namespace Go.Proofs.Qxb6615733a
open Go.RowKit

/-- A CopyState's value: the state, where its ranges lie, its error. -/
def cs (z : ZS) (g : Nat) (err : Value) : Array Value :=
  #[.string z.id, .string z.addr, .int .u64 z.first, .int .u64 z.last, .int .u64 z.prom, .slice (some ⟨g, 0, none⟩) z.n z.n, .int .u64 z.bytes, .bool z.lost, err]

set_option maxHeartbeats 400000 in
theorem answered_any (z : ZS) (g : Nat) (w : World) :
    Calls Try.prog 16 #[.agg #[.string z.id, .string z.addr], .agg #[.int .u64 z.first, .int .u64 z.last, .int .u64 z.prom, .slice (some ⟨g, 0, none⟩) z.n z.n, .int .u64 z.bytes, .bool z.lost]] w
      fun e w' => e = .returned (.agg (cs z g .nilIface)) ∧ Below w.heap.size w w' := by
  go_enter Try.func16, Try.ntmps16
  go_wp2
  exact bodyPost_ret (v := .agg (cs z g .nilIface)) (by simp [results, Try.results16, go_sem, cs]) rfl ⟨rfl, (((Below.refl _ _).alloc (Nat.le_refl _) _).alloc (by simp) _).alloc (by simp; omega) _⟩

set_option maxHeartbeats 400000 in
theorem failed_any (z : ZS) (g : Nat) (w : World) :
    Calls Try.prog 15 #[.agg #[.string z.id, .string z.addr], .agg #[.int .u64 z.first, .int .u64 z.last, .int .u64 z.prom, .slice (some ⟨g, 0, none⟩) z.n z.n, .int .u64 z.bytes, .bool z.lost]] w
      fun e w' => ∃ a, e = .returned (.agg (cs z g (.iface 55 (.pointer (some a))))) ∧ Below w.heap.size w w' := by
  go_enter Try.func15, Try.ntmps15
  go_wp2
  exact bodyPost_ret (v := .agg (cs z g (.iface 55 (.pointer (some ⟨w.heap.size + 1 + 1 + 1, 0, none⟩))))) (by simp [results, Try.results15, go_sem, cs]) rfl ⟨_, rfl, ((((Below.refl _ _).alloc (Nat.le_refl _) _).alloc (by simp) _).alloc (by simp; omega) _).alloc (by simp; omega) _⟩

/-- The error's cell says whether the member failed. -/
def ErrOk (z : ZS) (err : Value) : Prop := (z.failed = false ∧ err = .nilIface) ∨ (z.failed = true ∧ ∃ a, err = .iface 55 (.pointer (some a)))
/-- The copy's own ranges, at the head of block g. -/
def Rng (w : World) (g : Nat) (z : ZS) : Prop := g < w.heap.size ∧ ∀ j, j < 2 * z.n → w.cell? ⟨g, j, none⟩ = some (.int .u64 (z.es j))
theorem Rng.below {w w' : World} {g : Nat} {z : ZS} (h : Rng w g z) (hb : Below w.heap.size w w') : Rng w' g z :=
  ⟨Nat.lt_of_lt_of_le h.1 hb.size, fun j hj => by rw [hb.cell (p := ⟨g, j, none⟩) h.1]; exact h.2 j hj⟩
/-- What is kept where another row is written. -/
theorem Rng.kept {w w' : World} {g : Nat} {r : Option Nat} {z : ZS} (h : Rng w g z) (hg : w.grownBy w' r) (hne : some g ≠ r) : Rng w' g z :=
  ⟨Nat.lt_of_lt_of_le h.1 hg.size, fun j hj => by rw [World.cell?_of_block (w := w) (hg.block g h.1 hne)]; exact h.2 j hj⟩

/-- One element's cells, its ranges in a block of which P holds. -/
def Elem (w : World) (P : Nat → Prop) (z : ZS) (ys : List Value) : Prop := ∃ g err, ys = (cs z g err).toList ∧ ErrOk z err ∧ Rng w g z ∧ P g
/-- The elements' cells, one element behind the other. -/
def Elems (w : World) (P : Nat → Prop) : List ZS → List Value → Prop
  | [], ys => ys = []
  | z :: r, ys => ∃ a b, ys = a ++ b ∧ Elem w P z a ∧ Elems w P r b
theorem Elem.below {w w' : World} {P : Nat → Prop} {z : ZS} {ys : List Value} (h : Elem w P z ys) (hb : Below w.heap.size w w') : Elem w' P z ys := by
  obtain ⟨g, err, h1, h2, h3, h4⟩ := h
  exact ⟨g, err, h1, h2, h3.below hb, h4⟩
theorem Elem.kept {w w' : World} {P : Nat → Prop} {r : Option Nat} {z : ZS} {ys : List Value} (h : Elem w P z ys) (hg : w.grownBy w' r) (hP : ∀ g, P g → some g ≠ r) : Elem w' P z ys := by
  obtain ⟨g, err, h1, h2, h3, h4⟩ := h
  exact ⟨g, err, h1, h2, h3.kept hg (hP g h4), h4⟩
theorem Elems.map {w w' : World} {P : Nat → Prop} (hm : ∀ z ys, Elem w P z ys → Elem w' P z ys) : ∀ {L : List ZS} {xs : List Value}, Elems w P L xs → Elems w' P L xs
  | [], _, h => h
  | _ :: _, _, ⟨a, b, h1, h2, h3⟩ => ⟨a, b, h1, hm _ _ h2, Elems.map hm h3⟩
theorem Elems.below {w w' : World} {P : Nat → Prop} {L : List ZS} {xs : List Value} (h : Elems w P L xs) (hb : Below w.heap.size w w') : Elems w' P L xs := h.map fun _ _ e => e.below hb
theorem Elems.kept {w w' : World} {P : Nat → Prop} {r : Option Nat} {L : List ZS} {xs : List Value} (h : Elems w P L xs) (hg : w.grownBy w' r) (hP : ∀ g, P g → some g ≠ r) : Elems w' P L xs := h.map fun _ _ e => e.kept hg hP
theorem Elems.snoc {w : World} {P : Nat → Prop} {z : ZS} {ys : List Value} (hz : Elem w P z ys) : ∀ {L : List ZS} {xs : List Value}, Elems w P L xs → Elems w P (L ++ [z]) (xs ++ ys)
  | [], xs, h => by
    have h' : xs = [] := h
    subst h'
    exact ⟨ys, [], by simp, hz, rfl⟩
  | _ :: _, _, ⟨a, b, h1, h2, h3⟩ => ⟨a, b ++ ys, by rw [h1, List.append_assoc], h2, Elems.snoc hz h3⟩
theorem Elem.length {w : World} {P : Nat → Prop} {z : ZS} {ys : List Value} (h : Elem w P z ys) : ys.length = 9 := by
  obtain ⟨g, err, rfl, _⟩ := h
  rfl
/-- The i-th element's cells. -/
theorem Elems.get {w : World} {P : Nat → Prop} : ∀ {L : List ZS} {xs : List Value}, Elems w P L xs → ∀ (i : Nat) (z : ZS), L[i]? = some z → ∃ g err, ErrOk z err ∧ Rng w g z ∧ P g ∧ ∀ j, j < 9 → xs[i * 9 + j]? = (cs z g err)[j]?
  | [], _, _, i, z, hz => by simp at hz
  | y :: r, xs, ⟨a, b, h1, h2, h3⟩, 0, z, hz => by
    have e : y = z := by simpa using hz
    subst e
    have hl := h2.length
    obtain ⟨g, err, h4, h5, h6, h8⟩ := h2
    refine ⟨g, err, h5, h6, h8, fun j hj => ?_⟩
    rw [h1, Nat.zero_mul, Nat.zero_add, List.getElem?_append_left (by omega), h4, Array.getElem?_toList]
  | y :: r, xs, ⟨a, b, h1, h2, h3⟩, i + 1, z, hz => by
    obtain ⟨g, err, h5, h6, h8, h7⟩ := Elems.get h3 i z (by simpa using hz)
    refine ⟨g, err, h5, h6, h8, fun j hj => ?_⟩
    have hl := h2.length
    rw [h1, List.getElem?_append_right (by omega), ← h7 j hj]
    congr 1
    omega

/-- The nine cells of a CopyState at 'o' of block 'b'. -/
structure Nine' (w : World) (b o : Nat) (z : ZS) (g : Nat) (err : Value) : Prop where
  c0 : w.cell? ⟨b, o, none⟩ = some (.string z.id)
  c1 : w.cell? ⟨b, o + 1, none⟩ = some (.string z.addr)
  c2 : w.cell? ⟨b, o + 2, none⟩ = some (.int .u64 z.first)
  c3 : w.cell? ⟨b, o + 3, none⟩ = some (.int .u64 z.last)
  c4 : w.cell? ⟨b, o + 4, none⟩ = some (.int .u64 z.prom)
  c5 : w.cell? ⟨b, o + 5, none⟩ = some (.slice (some ⟨g, 0, none⟩) z.n z.n)
  c6 : w.cell? ⟨b, o + 6, none⟩ = some (.int .u64 z.bytes)
  c7 : w.cell? ⟨b, o + 7, none⟩ = some (.bool z.lost)
  c8 : w.cell? ⟨b, o + 8, none⟩ = some err
theorem Nine'.below {w w' : World} {b o B : Nat} {z : ZS} {g : Nat} {err : Value} (h : Nine' w b o z g err) (hb : Below B w w') (hB : b < B) : Nine' w' b o z g err := by
  have e : ∀ j, w'.cell? ⟨b, j, none⟩ = w.cell? ⟨b, j, none⟩ := fun j => hb.cell (p := ⟨b, j, none⟩) hB
  exact ⟨(e _).trans h.c0, (e _).trans h.c1, (e _).trans h.c2, (e _).trans h.c3, (e _).trans h.c4, (e _).trans h.c5, (e _).trans h.c6, (e _).trans h.c7, (e _).trans h.c8⟩
theorem Nine'.lt {w : World} {b o : Nat} {z : ZS} {g : Nat} {err : Value} (h : Nine' w b o z g err) : b < w.heap.size := block_lt_of_cell (a := ⟨b, o, none⟩) h.c0

/-- A SLICE OF COPIES, for reading: nil, or a row at the head of a block; the row and each copy's ranges lie in blocks of which P holds. -/
def Cpy (w : World) (P : Nat → Prop) (p : Option Addr) (L : List ZS) : Prop :=
  ∀ (i : Nat) (z : ZS), L[i]? = some z → ∃ b g err, p = some ⟨b, 0, none⟩ ∧ Nine' w b (i * 9) z g err ∧ ErrOk z err ∧ Rng w g z ∧ P b ∧ P g
theorem Cpy.below {w w' : World} {P : Nat → Prop} {p : Option Addr} {L : List ZS} (h : Cpy w P p L) (hb : Below w.heap.size w w') : Cpy w' P p L := by
  intro i z hz
  obtain ⟨b, g, err, h1, h2, h3, h4, h5⟩ := h i z hz
  exact ⟨b, g, err, h1, h2.below hb h2.lt, h3, h4.below hb, h5⟩
/-- It is kept where those blocks are. -/
theorem Cpy.kept {w w' : World} {P : Nat → Prop} {p : Option Addr} {L : List ZS} (h : Cpy w P p L) (hs : w.heap.size ≤ w'.heap.size) (hk : ∀ k, P k → w'.heap[k]? = w.heap[k]?) : Cpy w' P p L := by
  intro i z hz
  obtain ⟨b, g, err, h1, h2, h3, h4, h5, h6⟩ := h i z hz
  have e : ∀ j, w'.cell? ⟨b, j, none⟩ = w.cell? ⟨b, j, none⟩ := fun j => World.cell?_of_block (w := w) (a := ⟨b, j, none⟩) (hk b h5)
  refine ⟨b, g, err, h1, ⟨(e _).trans h2.c0, (e _).trans h2.c1, (e _).trans h2.c2, (e _).trans h2.c3, (e _).trans h2.c4, (e _).trans h2.c5, (e _).trans h2.c6, (e _).trans h2.c7, (e _).trans h2.c8⟩, h3, ⟨Nat.lt_of_lt_of_le h4.1 hs, fun j hj => ?_⟩, h5, h6⟩
  rw [World.cell?_of_block (w := w) (a := ⟨g, j, none⟩) (hk g h6)]
  exact h4.2 j hj
theorem Cpy.bound {w : World} {P : Nat → Prop} {p : Option Addr} {L : List ZS} (h : Cpy w P p L) : Cpy w (fun k => k < w.heap.size) p L := by
  intro i z hz
  obtain ⟨b, g, err, h1, h2, h3, h4, _, _⟩ := h i z hz
  exact ⟨b, g, err, h1, h2, h3, h4, h2.lt, h4.1⟩
theorem Cpy.get {w : World} {P : Nat → Prop} {p : Option Addr} {L : List ZS} (h : Cpy w P p L) {k : Nat} (hk : k < L.length) :
    ∃ z b g err, L[k]? = some z ∧ p = some ⟨b, 0, none⟩ ∧ Nine' w b (k * 9) z g err ∧ ErrOk z err ∧ Rng w g z ∧ P b ∧ P g := by
  obtain ⟨b, g, err, h1⟩ := h k L[k] (List.getElem?_eq_getElem hk)
  exact ⟨L[k], b, g, err, List.getElem?_eq_getElem hk, h1⟩

/-- What is owned can be read. -/
theorem Cpy.of_own {w : World} {base : Nat} {P : Nat → Prop} {p : Option Addr} {cap : Nat} {L : List ZS} {xs : List Value}
    (h : w.ownsRow base 42 9 (.slice p L.length cap) L.length xs) (he : Elems w P L xs) : Cpy w (fun k => P k ∨ base ≤ k) p L := by
  intro i z hz
  obtain ⟨hi, _⟩ := List.getElem?_eq_some_iff.1 hz
  have hh := h
  obtain ⟨_, h⟩ := h
  rcases h with ⟨h, h0⟩ | ⟨g, cap', cur, hv, hbase, _⟩
  · omega
  · simp only [Value.slice.injEq, true_and] at hv
    obtain ⟨rfl, rfl⟩ := hv
    obtain ⟨q, err, h5, h6, h8, h7⟩ := he.get i z hz
    have key : ∀ j, j < 9 → w.cell? ⟨g, i * 9 + j, none⟩ = (cs z q err)[j]? := fun j hj => by
      rw [← h7 j hj]; exact hh.cellAt (i * 9 + j) (by omega)
    exact ⟨g, q, err, rfl, ⟨key 0 (by omega), key 1 (by omega), key 2 (by omega), key 3 (by omega), key 4 (by omega), key 5 (by omega), key 6 (by omega), key 7 (by omega), key 8 (by omega)⟩, h5, h6, .inr hbase, .inl h8⟩

end Go.Proofs.Qxb6615733a
