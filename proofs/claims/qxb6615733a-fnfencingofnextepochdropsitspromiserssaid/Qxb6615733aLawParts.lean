/- What both laws keep while they compare, outside the walks. -/
import Derived.Test.Qxb6615733aBuild
import Derived.Test.Qxb6615733aFence
import Derived.Test.Qxb6615733aSame
namespace Go.Proofs.Qxb6615733a
open Go.RowKit

theorem Cpy.weak {w : World} {P : Nat → Prop} {p : Option Addr} {L : List ZS} (h : Cpy w P p L) : Cpy w (fun _ => True) p L := by
  intro i z hz
  obtain ⟨b, g, err, h1, h2, h3, h4, _, _⟩ := h i z hz
  exact ⟨b, g, err, h1, h2, h3, h4, trivial, trivial⟩

/-- A Fencing at block FB. -/
structure Fen (wr : World) (FB : Nat) (E : Int) (g n : Nat) (pv : Option Addr) (m cv : Nat) (F C : Bool) : Prop where
  c0 : wr.cell? ⟨FB, 0, none⟩ = some (.int .u64 E)
  c1 : wr.cell? ⟨FB, 1, none⟩ = some (.slice (some ⟨g, 0, none⟩) n n)
  c2 : wr.cell? ⟨FB, 2, none⟩ = some (.slice pv m cv)
  c3 : wr.cell? ⟨FB, 3, none⟩ = some (.bool F)
  c4 : wr.cell? ⟨FB, 4, none⟩ = some (.bool C)
theorem Fen.below {wr w' : World} {FB : Nat} {E : Int} {g n : Nat} {pv : Option Addr} {m cv : Nat} {F C : Bool} (h : Fen wr FB E g n pv m cv F C) (hb : Below wr.heap.size wr w') : Fen w' FB E g n pv m cv F C := by
  have hl : FB < wr.heap.size := block_lt_of_cell (a := ⟨FB, 0, none⟩) h.c0
  have e : ∀ j, w'.cell? ⟨FB, j, none⟩ = wr.cell? ⟨FB, j, none⟩ := fun j => hb.cell (p := ⟨FB, j, none⟩) hl
  exact ⟨(e _).trans h.c0, (e _).trans h.c1, (e _).trans h.c2, (e _).trans h.c3, (e _).trans h.c4⟩
theorem Fen.made (w : World) (E : Int) (g n : Nat) (pv : Option Addr) (m cv : Nat) (F C : Bool) :
    Fen (w.alloc (.cells #[.int .u64 E, .slice (some ⟨g, 0, none⟩) n n, .slice pv m cv, .bool F, .bool C] 29)) w.heap.size E g n pv m cv F C := by
  constructor <;> (rw [World.cell?_alloc_at _ _ _ _ rfl]; rfl)

/-- The k-th newer copy, when the i-th state is one. -/
theorem newer_get {E : Int} {L : List ZS} {i : Nat} {z : ZS} (hz : L[i]? = some z) (h : nw E z = true) : (newer E L)[(newer E (L.take i)).length]? = some z := by
  obtain ⟨B, e⟩ : ∃ B, L = L.take i ++ z :: B := by
    obtain ⟨hi, rfl⟩ := List.getElem?_eq_some_iff.1 hz
    exact ⟨L.drop (i + 1), by rw [← List.drop_eq_getElem_cons hi, List.take_append_drop]⟩
  have e2 : newer E L = newer E (L.take i) ++ z :: newer E B := by
    refine (congrArg (newer E) e).trans ?_
    simp only [newer, List.filter_append, List.filter_cons_of_pos h]
  rw [e2, List.getElem?_append_right (Nat.le_refl _)]
  simp
theorem lt_of_get {L : List ZS} {i : Nat} {z : ZS} (hz : L[i]? = some z) : i < L.length := (List.getElem?_eq_some_iff.1 hz).1

/-- WHAT LAW A KEEPS. -/
structure AB (w wr : World) (FB : Nat) (E : Int) (p pv : Option Addr) (g n m cv : Nat) (F C : Bool) (L N : List ZS) : Prop where
  fen : Fen wr FB E g n pv m cv F C
  sts : Sts wr p L
  cst : Cpy wr (fun _ => True) (some ⟨g, 0, none⟩) L
  cnw : Cpy wr (fun _ => True) pv N
  bel : Below w.heap.size w wr
theorem AB.below {w wr w' : World} {FB : Nat} {E : Int} {p pv : Option Addr} {g n m cv : Nat} {F C : Bool} {L N : List ZS} (h : AB w wr FB E p pv g n m cv F C L N) (hb : Below wr.heap.size wr w') :
    AB w w' FB E p pv g n m cv F C L N :=
  ⟨h.fen.below hb, h.sts.below hb, h.cst.below hb, h.cnw.below hb, h.bel.trans (hb.mono h.bel.size)⟩

/-- THE NINETEEN CELLS THAT A COMPARISON READS: a slice's cell at 'f' of block FB; a state's nine; a copy's nine. -/
def S19 (FB f : Nat) (v : Value) (b o : Nat) (z : ZS) (fl : Bool) (g q gz : Nat) (err : Value) (w' : World) : Prop :=
  w'.cell? ⟨FB, f, none⟩ = some v ∧
  w'.cell? ⟨b, o, none⟩ = some (.string z.id) ∧ w'.cell? ⟨b, o + 1, none⟩ = some (.string z.addr) ∧ w'.cell? ⟨b, o + 2, none⟩ = some (.int .u64 z.first) ∧ w'.cell? ⟨b, o + 3, none⟩ = some (.int .u64 z.last) ∧ w'.cell? ⟨b, o + 4, none⟩ = some (.int .u64 z.prom) ∧ w'.cell? ⟨b, o + 5, none⟩ = some (.slice z.ep z.n z.cap) ∧ w'.cell? ⟨b, o + 6, none⟩ = some (.int .u64 z.bytes) ∧ w'.cell? ⟨b, o + 7, none⟩ = some (.bool z.lost) ∧ w'.cell? ⟨b, o + 8, none⟩ = some (.bool fl) ∧
  w'.cell? ⟨g, q, none⟩ = some (.string z.id) ∧ w'.cell? ⟨g, q + 1, none⟩ = some (.string z.addr) ∧ w'.cell? ⟨g, q + 2, none⟩ = some (.int .u64 z.first) ∧ w'.cell? ⟨g, q + 3, none⟩ = some (.int .u64 z.last) ∧ w'.cell? ⟨g, q + 4, none⟩ = some (.int .u64 z.prom) ∧ w'.cell? ⟨g, q + 5, none⟩ = some (.slice (some ⟨gz, 0, none⟩) z.n z.n) ∧ w'.cell? ⟨g, q + 6, none⟩ = some (.int .u64 z.bytes) ∧ w'.cell? ⟨g, q + 7, none⟩ = some (.bool z.lost) ∧ w'.cell? ⟨g, q + 8, none⟩ = some err
theorem S19.of {wr w' : World} {FB f : Nat} {v : Value} {b o : Nat} {z : ZS} {fl : Bool} (hf : z.failed = fl) {g q gz : Nat} {err : Value} (h0 : wr.cell? ⟨FB, f, none⟩ = some v) (h1 : Nine wr b o z) (h2 : Nine' wr g q z gz err) (hb : Below wr.heap.size wr w') :
    S19 FB f v b o z fl g q gz err w' := by
  subst hf
  have hl : FB < wr.heap.size := block_lt_of_cell (a := ⟨FB, f, none⟩) h0
  obtain ⟨a0, a1, a2, a3, a4, a5, a6, a7, a8⟩ := h1.below hb h1.lt
  obtain ⟨d0, d1, d2, d3, d4, d5, d6, d7, d8⟩ := h2.below hb h2.lt
  exact ⟨by rw [hb.cell (p := ⟨FB, f, none⟩) hl]; exact h0, a0, a1, a2, a3, a4, a5, a6, a7, a8, d0, d1, d2, d3, d4, d5, d6, d7, d8⟩

/-- zzSameAs, as both loops of law A want it. -/
theorem sameas_here {wr : World} {FB f : Nat} {v : Value} {b o : Nat} {z : ZS} {fl : Bool} (hf : z.failed = fl) {g q gz : Nat} {err : Value} (hn : z.n ≤ 65536) (herr : ErrOk z err) (hrg : Rng wr gz z) (harg : Arg wr z)
    (h0 : wr.cell? ⟨FB, f, none⟩ = some v) (h1 : Nine wr b o z) (h2 : Nine' wr g q z gz err) (wx : World) (hb : Below wr.heap.size wr wx) :
    Calls Try.prog 9 #[.agg #[.string z.id, .string z.addr, .int .u64 z.first, .int .u64 z.last, .int .u64 z.prom, .slice (some ⟨gz, 0, none⟩) z.n z.n, .int .u64 z.bytes, .bool z.lost, err],
      .agg #[.string z.id, .string z.addr, .int .u64 z.first, .int .u64 z.last, .int .u64 z.prom, .slice z.ep z.n z.cap, .int .u64 z.bytes, .bool z.lost, .bool fl]] wx
      fun e w' => e = .returned (.bool true) ∧ Below wr.heap.size wr w' ∧ S19 FB f v b o z fl g q gz err w' := by
  subst hf
  refine (sameas_any z gz err wx hn herr (hrg.below hb) (harg.below hb)).mono ?_
  rintro e w' ⟨rfl, hb'⟩
  have hbb : Below wr.heap.size wr w' := hb.trans (hb'.mono hb.size)
  exact ⟨rfl, hbb, S19.of rfl h0 h1 h2 hbb⟩

/-- The local 'x': the state's nine cells in a block of its own. -/
theorem nine_local (w : World) (z : ZS) : Nine (w.alloc (.cells #[.string z.id, .string z.addr, .int .u64 z.first, .int .u64 z.last, .int .u64 z.prom, .slice z.ep z.n z.cap, .int .u64 z.bytes, .bool z.lost, .bool z.failed] 45)) w.heap.size 0 z := by
  constructor <;> (rw [World.cell?_alloc_at _ _ _ _ rfl]; rfl)

end Go.Proofs.Qxb6615733a
