/- What the walks say of the law's states in memory. No program is named here. -/
import Derived.WalkKit
import Derived.Deep.OwnRows
namespace Go.Proofs.Qxb6615733a
open Go.RowKit

theorem hide {p : Prop} (h : p) : Hid p := h

/-- ONE ZState AS IT LIES IN MEMORY: its nine cells; 'es': the cells of its ranges, two a range. -/
structure ZS where
  id : ByteArray
  addr : ByteArray
  first : Int
  last : Int
  prom : Int
  ep : Option Addr
  n : Nat
  cap : Nat
  es : Nat → Int
  bytes : Int
  lost : Bool
  failed : Bool

/-- The nine cells of a ZState at 'o' of block 'b'. -/
structure Nine (w : World) (b o : Nat) (z : ZS) : Prop where
  c0 : w.cell? ⟨b, o, none⟩ = some (.string z.id)
  c1 : w.cell? ⟨b, o + 1, none⟩ = some (.string z.addr)
  c2 : w.cell? ⟨b, o + 2, none⟩ = some (.int .u64 z.first)
  c3 : w.cell? ⟨b, o + 3, none⟩ = some (.int .u64 z.last)
  c4 : w.cell? ⟨b, o + 4, none⟩ = some (.int .u64 z.prom)
  c5 : w.cell? ⟨b, o + 5, none⟩ = some (.slice z.ep z.n z.cap)
  c6 : w.cell? ⟨b, o + 6, none⟩ = some (.int .u64 z.bytes)
  c7 : w.cell? ⟨b, o + 7, none⟩ = some (.bool z.lost)
  c8 : w.cell? ⟨b, o + 8, none⟩ = some (.bool z.failed)
theorem Nine.below {w w' : World} {b o B : Nat} {z : ZS} (h : Nine w b o z) (hb : Below B w w') (hB : b < B) : Nine w' b o z := by
  have e : ∀ j, w'.cell? ⟨b, j, none⟩ = w.cell? ⟨b, j, none⟩ := fun j => hb.cell (p := ⟨b, j, none⟩) hB
  exact ⟨(e _).trans h.c0, (e _).trans h.c1, (e _).trans h.c2, (e _).trans h.c3, (e _).trans h.c4, (e _).trans h.c5, (e _).trans h.c6, (e _).trans h.c7, (e _).trans h.c8⟩
theorem Nine.lt {w : World} {b o : Nat} {z : ZS} (h : Nine w b o z) : b < w.heap.size := block_lt_of_cell (a := ⟨b, o, none⟩) h.c0

/-- The cells of its ranges, as the caller laid them. -/
def Arg (w : World) (z : ZS) : Prop := ∀ j, j < 2 * z.n → ∃ b off, z.ep = some ⟨b, off, none⟩ ∧ b < w.heap.size ∧ w.cell? ⟨b, off + j, none⟩ = some (.int .u64 (z.es j))
theorem Arg.below {w w' : World} {z : ZS} (h : Arg w z) (hb : Below w.heap.size w w') : Arg w' z := by
  intro j hj
  obtain ⟨b, off, h1, h2, h3⟩ := h j hj
  exact ⟨b, off, h1, Nat.lt_of_lt_of_le h2 hb.size, by rw [hb.cell (p := ⟨b, off + j, none⟩) h2]; exact h3⟩

/-- THE ARGUMENT: a slice of such states. -/
def Sts (w : World) (p : Option Addr) (L : List ZS) : Prop :=
  ∀ (i : Nat) (z : ZS), L[i]? = some z → ∃ b off, p = some ⟨b, off, none⟩ ∧ Nine w b (off + i * 9) z ∧ Arg w z ∧ z.n ≤ maxLen ∧ z.id.size ≤ maxLen ∧ z.addr.size ≤ maxLen
theorem Sts.below {w w' : World} {p : Option Addr} {L : List ZS} (h : Sts w p L) (hb : Below w.heap.size w w') : Sts w' p L := by
  intro i z hz
  obtain ⟨b, off, h1, h2, h3, h4, h5, h6⟩ := h i z hz
  exact ⟨b, off, h1, h2.below hb h2.lt, h3.below hb, h4, h5, h6⟩
theorem Sts.get {w : World} {p : Option Addr} {L : List ZS} (h : Sts w p L) {k : Nat} (hk : k < L.length) :
    ∃ z b off, L[k]? = some z ∧ p = some ⟨b, off, none⟩ ∧ Nine w b (off + k * 9) z ∧ Arg w z ∧ z.n ≤ maxLen ∧ z.id.size ≤ maxLen ∧ z.addr.size ≤ maxLen := by
  obtain ⟨b, off, h1⟩ := h k L[k] (List.getElem?_eq_getElem hk)
  exact ⟨L[k], b, off, List.getElem?_eq_getElem hk, h1⟩

end Go.Proofs.Qxb6615733a
