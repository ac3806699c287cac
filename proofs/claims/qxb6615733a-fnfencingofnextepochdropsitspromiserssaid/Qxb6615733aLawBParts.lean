/- What law B keeps, and its plain part. -/
import Derived.Test.Qxb6615733aLawParts
namespace Go.Proofs.Qxb6615733a
open Go.RowKit

/-! ### The plain part -/
/-- Of the newer copies, those that promised just D. -/
def atP (D : Int) (z : ZS) : Bool := z.prom == D
def notP (D : Int) (z : ZS) : Bool := !(z.prom == D)
/-- An answered state that promised just D. -/
def ans (D : Int) (z : ZS) : Bool := !z.failed && (z.prom == D)

theorem filter_take_yes {f : ZS → Bool} {L : List ZS} {k : Nat} {z : ZS} (hz : L[k]? = some z) (h : f z = true) : ((L.take (k + 1)).filter f).length = ((L.take k).filter f).length + 1 := by
  rw [take_at hz]; simp [h]
theorem filter_take_no {f : ZS → Bool} {L : List ZS} {k : Nat} {z : ZS} (hz : L[k]? = some z) (h : f z = false) : ((L.take (k + 1)).filter f).length = ((L.take k).filter f).length := by
  rw [take_at hz]; simp [h]
theorem filter_get {f : ZS → Bool} {L : List ZS} {i : Nat} {z : ZS} (hz : L[i]? = some z) (h : f z = true) : (L.filter f)[((L.take i).filter f).length]? = some z := by
  obtain ⟨B, e⟩ : ∃ B, L = L.take i ++ z :: B := by
    obtain ⟨hi, rfl⟩ := List.getElem?_eq_some_iff.1 hz
    exact ⟨L.drop (i + 1), by rw [← List.drop_eq_getElem_cons hi, List.take_append_drop]⟩
  have e2 : L.filter f = (L.take i).filter f ++ z :: B.filter f := by
    refine (congrArg (List.filter f) e).trans ?_
    simp only [List.filter_append, List.filter_cons_of_pos h]
  rw [e2, List.getElem?_append_right (Nat.le_refl _)]
  simp
theorem newer_next (E : Int) (L : List ZS) : newer (E + 1) L = (newer E L).filter (notP (E + 1)) := by
  unfold newer
  rw [List.filter_filter]
  apply List.filter_congr
  intro z _
  rw [Bool.eq_iff_iff]
  rcases Bool.eq_false_or_eq_true z.failed with h | h
  · simp [nw, h]
  · simp [nw, notP, h]
    omega
theorem promisers (E : Int) (L : List ZS) : ((newer E L).filter (atP (E + 1))).length = (L.filter (ans (E + 1))).length := by
  unfold newer
  rw [List.filter_filter]
  congr 1
  apply List.filter_congr
  intro z _
  rw [Bool.eq_iff_iff]
  rcases Bool.eq_false_or_eq_true z.failed with h | h
  · simp [nw, ans, h]
  · simp [nw, atP, ans, h]
    omega
theorem newer_mem {E : Int} {L : List ZS} {k : Nat} {z : ZS} (h : (newer E L)[k]? = some z) : z.failed = false := by
  have h2 := (List.mem_filter.1 (List.mem_of_getElem? h)).2
  simp [nw] at h2
  exact h2.1
theorem ErrOk.nil {z : ZS} {err : Value} (h : ErrOk z err) (hf : z.failed = false) : err = .nilIface := by
  rcases h with ⟨_, h⟩ | ⟨h, _⟩
  · exact h
  · rw [hf] at h; cases h
theorem filter_len_le (f : ZS → Bool) (L : List ZS) : (L.filter f).length ≤ L.length := List.length_filter_le _ _

/-! ### What is kept -/
structure BB (w wr : World) (LO HI : Nat) (E D : Int) (p pl ph : Option Addr) (gl gh n ml mh cl ch : Nat) (FL CL FH CH : Bool) (L NL NH : List ZS) : Prop where
  fl : Fen wr LO E gl n pl ml cl FL CL
  fh : Fen wr HI D gh n ph mh ch FH CH
  sts : Sts wr p L
  low : Cpy wr (fun _ => True) pl NL
  hig : Cpy wr (fun _ => True) ph NH
  bel : Below w.heap.size w wr
theorem BB.below {w wr w' : World} {LO HI : Nat} {E D : Int} {p pl ph : Option Addr} {gl gh n ml mh cl ch : Nat} {FL CL FH CH : Bool} {L NL NH : List ZS}
    (h : BB w wr LO HI E D p pl ph gl gh n ml mh cl ch FL CL FH CH L NL NH) (hb : Below wr.heap.size wr w') : BB w w' LO HI E D p pl ph gl gh n ml mh cl ch FL CL FH CH L NL NH :=
  ⟨h.fl.below hb, h.fh.below hb, h.sts.below hb, h.low.below hb, h.hig.below hb, h.bel.trans (hb.mono h.bel.size)⟩

/-- The nineteen cells that a comparison of two copies reads. -/
def S19c (FB f : Nat) (v : Value) (b o : Nat) (z : ZS) (gz : Nat) (err : Value) (g q gz' : Nat) (err' : Value) (w' : World) : Prop :=
  w'.cell? ⟨FB, f, none⟩ = some v ∧
  w'.cell? ⟨b, o, none⟩ = some (.string z.id) ∧ w'.cell? ⟨b, o + 1, none⟩ = some (.string z.addr) ∧ w'.cell? ⟨b, o + 2, none⟩ = some (.int .u64 z.first) ∧ w'.cell? ⟨b, o + 3, none⟩ = some (.int .u64 z.last) ∧ w'.cell? ⟨b, o + 4, none⟩ = some (.int .u64 z.prom) ∧ w'.cell? ⟨b, o + 5, none⟩ = some (.slice (some ⟨gz, 0, none⟩) z.n z.n) ∧ w'.cell? ⟨b, o + 6, none⟩ = some (.int .u64 z.bytes) ∧ w'.cell? ⟨b, o + 7, none⟩ = some (.bool z.lost) ∧ w'.cell? ⟨b, o + 8, none⟩ = some err ∧
  w'.cell? ⟨g, q, none⟩ = some (.string z.id) ∧ w'.cell? ⟨g, q + 1, none⟩ = some (.string z.addr) ∧ w'.cell? ⟨g, q + 2, none⟩ = some (.int .u64 z.first) ∧ w'.cell? ⟨g, q + 3, none⟩ = some (.int .u64 z.last) ∧ w'.cell? ⟨g, q + 4, none⟩ = some (.int .u64 z.prom) ∧ w'.cell? ⟨g, q + 5, none⟩ = some (.slice (some ⟨gz', 0, none⟩) z.n z.n) ∧ w'.cell? ⟨g, q + 6, none⟩ = some (.int .u64 z.bytes) ∧ w'.cell? ⟨g, q + 7, none⟩ = some (.bool z.lost) ∧ w'.cell? ⟨g, q + 8, none⟩ = some err'
theorem samecs_here {wr : World} {FB f : Nat} {v : Value} {b o : Nat} {z : ZS} {gz : Nat} {err : Value} {g q gz' : Nat} {err' : Value} (hn : z.n ≤ 65536) (herr : ErrOk z err) (herr' : ErrOk z err') (hrg : Rng wr gz z) (hrg' : Rng wr gz' z)
    (h0 : wr.cell? ⟨FB, f, none⟩ = some v) (h1 : Nine' wr b o z gz err) (h2 : Nine' wr g q z gz' err') (wx : World) (hb : Below wr.heap.size wr wx) :
    Calls Try.prog 11 #[.agg #[.string z.id, .string z.addr, .int .u64 z.first, .int .u64 z.last, .int .u64 z.prom, .slice (some ⟨gz', 0, none⟩) z.n z.n, .int .u64 z.bytes, .bool z.lost, err'],
      .agg #[.string z.id, .string z.addr, .int .u64 z.first, .int .u64 z.last, .int .u64 z.prom, .slice (some ⟨gz, 0, none⟩) z.n z.n, .int .u64 z.bytes, .bool z.lost, err]] wx
      fun e w' => e = .returned (.bool true) ∧ Below wr.heap.size wr w' ∧ S19c FB f v b o z gz err g q gz' err' w' := by
  refine (samecs_any z gz' gz err' err wx hn herr' herr (hrg'.below hb) (hrg.below hb)).mono ?_
  rintro e w' ⟨rfl, hb'⟩
  have hbb : Below wr.heap.size wr w' := hb.trans (hb'.mono hb.size)
  have hl : FB < wr.heap.size := block_lt_of_cell (a := ⟨FB, f, none⟩) h0
  obtain ⟨a0, a1, a2, a3, a4, a5, a6, a7, a8⟩ := h1.below hbb h1.lt
  obtain ⟨d0, d1, d2, d3, d4, d5, d6, d7, d8⟩ := h2.below hbb h2.lt
  exact ⟨rfl, hbb, by rw [hbb.cell (p := ⟨FB, f, none⟩) hl]; exact h0, a0, a1, a2, a3, a4, a5, a6, a7, a8, d0, d1, d2, d3, d4, d5, d6, d7, d8⟩

/-- The local 'st': a copy's nine cells in a block of its own. -/
theorem nine'_local (w : World) (z : ZS) (g : Nat) (err : Value) : Nine' (w.alloc (.cells #[.string z.id, .string z.addr, .int .u64 z.first, .int .u64 z.last, .int .u64 z.prom, .slice (some ⟨g, 0, none⟩) z.n z.n, .int .u64 z.bytes, .bool z.lost, err] 42)) w.heap.size 0 z g err := by
  constructor <;> (rw [World.cell?_alloc_at _ _ _ _ rfl]; rfl)

/-- The four answers, as far as they can go together. -/
theorem combos {FL CL FH CH : Bool} (K1 : ¬ (FL = true ∧ CL = true)) (K2 : ¬ (FH = true ∧ CH = true)) (K3 : FH = true → FL = true) (K4 : CL = true → CH = true) :
    (FL = true ∧ CL = false ∧ FH = true ∧ CH = false) ∨ (FL = true ∧ CL = false ∧ FH = false ∧ CH = false) ∨ (FL = true ∧ CL = false ∧ FH = false ∧ CH = true) ∨ (FL = false ∧ CL = true ∧ FH = false ∧ CH = true) ∨ (FL = false ∧ CL = false ∧ FH = false ∧ CH = false) ∨ (FL = false ∧ CL = false ∧ FH = false ∧ CH = true) := by
  revert K1 K2 K3 K4
  cases FL <;> cases CL <;> cases FH <;> cases CH <;> simp

end Go.Proofs.Qxb6615733a
