/- What stands behind 'cp := ..' in zzBuild's round, outside the walk. -/
import Derived.Test.Qxb6615733aEpochs
import Derived.Test.Qxb6615733aState
import Derived.Deep.RegionHeld3
namespace Go.Proofs.Qxb6615733a
open Go.RowKit

theorem info42 : (Try.prog.info? 42).map (fun i => (i.zero, i.size, i.bytes)) = some (some (.agg #[.string ⟨#[]⟩, .string ⟨#[]⟩, .int .u64 0, .int .u64 0, .int .u64 0, .slice none 0 0, .int .u64 0, .bool false, .nilIface]), 9, 112) := by kernel_rfl

/-- The local 'cp', laid at 'gc': its ranges at 'ge'. -/
structure Six (w : World) (gc : Nat) (z : ZS) (ge : Nat) : Prop where
  d0 : w.cell? ⟨gc, 0, none⟩ = some (.int .u64 z.first)
  d1 : w.cell? ⟨gc, 1, none⟩ = some (.int .u64 z.last)
  d2 : w.cell? ⟨gc, 2, none⟩ = some (.int .u64 z.prom)
  d3 : w.cell? ⟨gc, 3, none⟩ = some (.slice (some ⟨ge, 0, none⟩) z.n z.n)
  d4 : w.cell? ⟨gc, 4, none⟩ = some (.int .u64 z.bytes)
  d5 : w.cell? ⟨gc, 5, none⟩ = some (.bool z.lost)

/-- zzEpochs, as the round wants it. -/
theorem epochs_here (z : ZS) (W : World) (hn : z.n ≤ 65536) (ha : Arg W z) :
    Calls Try.prog 14 #[.slice z.ep z.n z.cap] W fun e w' => ∃ ge, e = .returned (.slice (some ⟨ge, 0, none⟩) z.n z.n) ∧ Below W.heap.size W w' ∧ Rng w' ge z ∧ W.heap.size ≤ ge :=
  (epochs_any z W hn ha).mono fun _ _ ⟨h1, h2, h3, h4⟩ => ⟨W.heap.size, h1, h2, ⟨h3, h4⟩, Nat.le_refl _⟩

/-- What stands behind zzEpochs' call, wherever the draw has put it: 'X': the local 'x', 'X + 1': the local 'node'. -/
structure Aft (W : World) (X : Nat) (z : ZS) (w' : World) (ge : Nat) : Prop where
  s2 : w'.cell? ⟨X, 2, none⟩ = some (.int .u64 z.first)
  s3 : w'.cell? ⟨X, 3, none⟩ = some (.int .u64 z.last)
  s4 : w'.cell? ⟨X, 4, none⟩ = some (.int .u64 z.prom)
  s5 : w'.cell? ⟨X, 5, none⟩ = some (.slice z.ep z.n z.cap)
  s6 : w'.cell? ⟨X, 6, none⟩ = some (.int .u64 z.bytes)
  s7 : w'.cell? ⟨X, 7, none⟩ = some (.bool z.lost)
  s8 : w'.cell? ⟨X, 8, none⟩ = some (.bool z.failed)
  t0 : w'.cell? ⟨X + 1, 0, none⟩ = some (.string z.id)
  t1 : w'.cell? ⟨X + 1, 1, none⟩ = some (.string z.addr)
  rng : Rng w' ge z
  lo : W.heap.size ≤ ge
  bel : Below W.heap.size W w'

theorem epochs_drawn (z : ZS) (W : World) (X : Nat) (hn : z.n ≤ 65536) (ha : Arg W z) (hX : X + 1 < W.heap.size)
    (q2 : W.cell? ⟨X, 2, none⟩ = some (.int .u64 z.first)) (q3 : W.cell? ⟨X, 3, none⟩ = some (.int .u64 z.last)) (q4 : W.cell? ⟨X, 4, none⟩ = some (.int .u64 z.prom))
    (q5 : W.cell? ⟨X, 5, none⟩ = some (.slice z.ep z.n z.cap)) (q6 : W.cell? ⟨X, 6, none⟩ = some (.int .u64 z.bytes)) (q7 : W.cell? ⟨X, 7, none⟩ = some (.bool z.lost)) (q8 : W.cell? ⟨X, 8, none⟩ = some (.bool z.failed))
    (r0 : W.cell? ⟨X + 1, 0, none⟩ = some (.string z.id)) (r1 : W.cell? ⟨X + 1, 1, none⟩ = some (.string z.addr)) (wx : World) (hwx : wx = W.drew ∨ ∃ o, wx = (W.alloc o).drew) :
    Calls Try.prog 14 #[.slice z.ep z.n z.cap] wx fun e w' => ∃ ge, e = .returned (.slice (some ⟨ge, 0, none⟩) z.n z.n) ∧ Aft W X z w' ge ∧ ∀ o, wx = (W.alloc o).drew → w'.heap[W.heap.size]? = some o ∧ W.heap.size < ge := by
  have hb : Below W.heap.size W wx := by
    rcases hwx with rfl | ⟨o, rfl⟩
    · exact (Below.refl _ _).drew
    · exact ((Below.refl _ _).alloc (Nat.le_refl _) o).drew
  refine (epochs_here z wx hn (ha.below hb)).mono ?_
  rintro e w' ⟨ge, rfl, hb', hr, hge⟩
  have hbb : Below W.heap.size W w' := hb.trans (hb'.mono hb.size)
  have key : ∀ (g j : Nat) v, g < W.heap.size → W.cell? ⟨g, j, none⟩ = some v → w'.cell? ⟨g, j, none⟩ = some v := fun g j v hg hv => by
    rw [hbb.cell (p := ⟨g, j, none⟩) hg]; exact hv
  refine ⟨ge, rfl, ⟨key _ _ _ (by omega) q2, key _ _ _ (by omega) q3, key _ _ _ (by omega) q4, key _ _ _ (by omega) q5, key _ _ _ (by omega) q6, key _ _ _ (by omega) q7, key _ _ _ (by omega) q8, key _ _ _ (by omega) r0, key _ _ _ (by omega) r1, hr, Nat.le_trans hb.size hge, hbb⟩, ?_⟩
  intro o ho
  subst ho
  refine ⟨?_, by simp at hge; omega⟩
  rw [hb'.block W.heap.size (by simp)]
  show (W.heap.push o)[W.heap.size]? = some o
  simp

/-- The zero 'cp', laid ahead of the call: its cells are there and may be written. -/
theorem zero6 {w : World} {g : Nat} (h : w.heap[g]? = some (.cells #[.int .u64 0, .int .u64 0, .int .u64 0, .slice none 0 0, .int .u64 0, .bool false] 38 (0, 0))) :
    (w.cell? ⟨g, 0, none⟩ = some (.int .u64 0) ∧ w.cell? ⟨g, 1, none⟩ = some (.int .u64 0) ∧ w.cell? ⟨g, 2, none⟩ = some (.int .u64 0) ∧ w.cell? ⟨g, 3, none⟩ = some (.slice none 0 0) ∧ w.cell? ⟨g, 4, none⟩ = some (.int .u64 0) ∧ w.cell? ⟨g, 5, none⟩ = some (.bool false)) ∧
    (w.frozen? ⟨g, 0, none⟩ = false ∧ w.frozen? ⟨g, 1, none⟩ = false ∧ w.frozen? ⟨g, 2, none⟩ = false ∧ w.frozen? ⟨g, 3, none⟩ = false ∧ w.frozen? ⟨g, 4, none⟩ = false ∧ w.frozen? ⟨g, 5, none⟩ = false) := by
  simp [World.cell?, World.frozen?, h]

/-- WHAT STANDS BEHIND 'cp := ..': 'cp' lies at some 'gc', its ranges at some 'ge'; 'x' and 'node' are as they were. -/
def Rel7 (wr : World) (z : ZS) (t7 : Value) (wx : World) : Prop :=
  ∃ gc ge, t7 = .pointer (some ⟨gc, 0, none⟩) ∧ Six wx gc z ge ∧ Rng wx ge z ∧ wr.heap.size < ge ∧ wx.cell? ⟨wr.heap.size, 8, none⟩ = some (.bool z.failed) ∧
    wx.cell? ⟨wr.heap.size + 1, 0, none⟩ = some (.string z.id) ∧ wx.cell? ⟨wr.heap.size + 1, 1, none⟩ = some (.string z.addr) ∧ Below wr.heap.size wr wx

theorem rel7_alloc {wr W w' : World} {z : ZS} {ge : Nat} (hsz : wr.heap.size + 1 < W.heap.size) (hbW : Below wr.heap.size wr W) (h : Aft W wr.heap.size z w' ge) :
    Rel7 wr z (.pointer (some ⟨w'.heap.size, 0, none⟩)) (w'.alloc (.cells #[.int .u64 z.first, .int .u64 z.last, .int .u64 z.prom, .slice (some ⟨ge, 0, none⟩) z.n z.n, .int .u64 z.bytes, .bool z.lost] 38)) := by
  have hb := (Below.refl w'.heap.size w').alloc (Nat.le_refl _) (.cells #[.int .u64 z.first, .int .u64 z.last, .int .u64 z.prom, .slice (some ⟨ge, 0, none⟩) z.n z.n, .int .u64 z.bytes, .bool z.lost] 38)
  have hW' := h.bel.size
  have hlo := h.lo
  have old : ∀ (g j : Nat) v, g < W.heap.size → w'.cell? ⟨g, j, none⟩ = some v → (w'.alloc (.cells #[.int .u64 z.first, .int .u64 z.last, .int .u64 z.prom, .slice (some ⟨ge, 0, none⟩) z.n z.n, .int .u64 z.bytes, .bool z.lost] 38)).cell? ⟨g, j, none⟩ = some v := fun g j v hg hv => by
    rw [hb.cell (p := ⟨g, j, none⟩) (by show g < _; omega)]; exact hv
  refine ⟨w'.heap.size, ge, rfl, ?_, h.rng.below hb, by omega, old _ _ _ (by omega) h.s8, old _ _ _ (by omega) h.t0, old _ _ _ (by omega) h.t1, ?_⟩
  · constructor <;> (rw [World.cell?_alloc_at _ _ _ _ rfl]; rfl)
  · exact (hbW.trans (h.bel.mono (by omega))).trans (hb.mono (by omega))

theorem rel7_store {wr W w' : World} {z : ZS} {ge : Nat} (hsz : wr.heap.size + 1 < W.heap.size) (hbW : Below wr.heap.size wr W) (h : Aft W wr.heap.size z w' ge)
    (hblk : w'.heap[W.heap.size]? = some (.cells #[.int .u64 0, .int .u64 0, .int .u64 0, .slice none 0 0, .int .u64 0, .bool false] 38 (0, 0))) (hgt : W.heap.size < ge) :
    Rel7 wr z (.pointer (some ⟨W.heap.size, 0, none⟩)) ((((((w'.setCell ⟨W.heap.size, 0, none⟩ (.int .u64 z.first)).setCell ⟨W.heap.size, 1, none⟩ (.int .u64 z.last)).setCell ⟨W.heap.size, 2, none⟩ (.int .u64 z.prom)).setCell ⟨W.heap.size, 3, none⟩ (.slice (some ⟨ge, 0, none⟩) z.n z.n)).setCell ⟨W.heap.size, 4, none⟩ (.int .u64 z.bytes)).setCell ⟨W.heap.size, 5, none⟩ (.bool z.lost)) := by
  have k0 := heap_setCell_same w' W.heap.size 0 _ 38 (.int .u64 z.first) hblk
  have k1 := heap_setCell_same _ W.heap.size 1 _ 38 (.int .u64 z.last) k0
  have k2 := heap_setCell_same _ W.heap.size 2 _ 38 (.int .u64 z.prom) k1
  have k3 := heap_setCell_same _ W.heap.size 3 _ 38 (.slice (some ⟨ge, 0, none⟩) z.n z.n) k2
  have k4 := heap_setCell_same _ W.heap.size 4 _ 38 (.int .u64 z.bytes) k3
  have k5 := heap_setCell_same _ W.heap.size 5 _ 38 (.bool z.lost) k4
  have hb : Below W.heap.size w' ((((((w'.setCell ⟨W.heap.size, 0, none⟩ (.int .u64 z.first)).setCell ⟨W.heap.size, 1, none⟩ (.int .u64 z.last)).setCell ⟨W.heap.size, 2, none⟩ (.int .u64 z.prom)).setCell ⟨W.heap.size, 3, none⟩ (.slice (some ⟨ge, 0, none⟩) z.n z.n)).setCell ⟨W.heap.size, 4, none⟩ (.int .u64 z.bytes)).setCell ⟨W.heap.size, 5, none⟩ (.bool z.lost)) :=
    ((((((Below.refl _ _).setCell (p := ⟨W.heap.size, 0, none⟩) (Nat.le_refl _) _).setCell (p := ⟨W.heap.size, 1, none⟩) (Nat.le_refl _) _).setCell (p := ⟨W.heap.size, 2, none⟩) (Nat.le_refl _) _).setCell (p := ⟨W.heap.size, 3, none⟩) (Nat.le_refl _) _).setCell (p := ⟨W.heap.size, 4, none⟩) (Nat.le_refl _) _).setCell (p := ⟨W.heap.size, 5, none⟩) (Nat.le_refl _) _
  have ho : ∀ k, k ≠ W.heap.size → ((((((w'.setCell ⟨W.heap.size, 0, none⟩ (.int .u64 z.first)).setCell ⟨W.heap.size, 1, none⟩ (.int .u64 z.last)).setCell ⟨W.heap.size, 2, none⟩ (.int .u64 z.prom)).setCell ⟨W.heap.size, 3, none⟩ (.slice (some ⟨ge, 0, none⟩) z.n z.n)).setCell ⟨W.heap.size, 4, none⟩ (.int .u64 z.bytes)).setCell ⟨W.heap.size, 5, none⟩ (.bool z.lost)).heap[k]? = w'.heap[k]? := fun k hk => by
    rw [Below.heap_setCell _ _ _ _ hk, Below.heap_setCell _ _ _ _ hk, Below.heap_setCell _ _ _ _ hk, Below.heap_setCell _ _ _ _ hk, Below.heap_setCell _ _ _ _ hk, Below.heap_setCell _ _ _ _ hk]
  generalize ((((((w'.setCell ⟨W.heap.size, 0, none⟩ (.int .u64 z.first)).setCell ⟨W.heap.size, 1, none⟩ (.int .u64 z.last)).setCell ⟨W.heap.size, 2, none⟩ (.int .u64 z.prom)).setCell ⟨W.heap.size, 3, none⟩ (.slice (some ⟨ge, 0, none⟩) z.n z.n)).setCell ⟨W.heap.size, 4, none⟩ (.int .u64 z.bytes)).setCell ⟨W.heap.size, 5, none⟩ (.bool z.lost)) = V at k5 hb ho ⊢
  have old : ∀ (g j : Nat) v, g < W.heap.size → w'.cell? ⟨g, j, none⟩ = some v → V.cell? ⟨g, j, none⟩ = some v := fun g j v hg hv => by
    rw [hb.cell (p := ⟨g, j, none⟩) hg]; exact hv
  refine ⟨W.heap.size, ge, rfl, ?_, ⟨Nat.lt_of_lt_of_le h.rng.1 hb.size, fun j hj => ?_⟩, by omega, old _ _ _ (by omega) h.s8, old _ _ _ (by omega) h.t0, old _ _ _ (by omega) h.t1, ?_⟩
  · constructor <;> simp [World.cell?, k5]
  · rw [World.cell?_of_block (w := w') (a := ⟨ge, j, none⟩) (ho ge (by omega))]
    exact h.rng.2 j hj
  · exact (hbW.trans (h.bel.mono (by omega))).trans (hb.mono (by omega))

/-- ZZanswered, ZZfailedState, their values written out. -/
theorem answered_lit (z : ZS) (g : Nat) (w : World) :
    Calls Try.prog 16 #[.agg #[.string z.id, .string z.addr], .agg #[.int .u64 z.first, .int .u64 z.last, .int .u64 z.prom, .slice (some ⟨g, 0, none⟩) z.n z.n, .int .u64 z.bytes, .bool z.lost]] w
      fun e w' => e = .returned (.agg #[.string z.id, .string z.addr, .int .u64 z.first, .int .u64 z.last, .int .u64 z.prom, .slice (some ⟨g, 0, none⟩) z.n z.n, .int .u64 z.bytes, .bool z.lost, .nilIface]) ∧ Below w.heap.size w w' := answered_any z g w
theorem failed_lit (z : ZS) (g : Nat) (w : World) :
    Calls Try.prog 15 #[.agg #[.string z.id, .string z.addr], .agg #[.int .u64 z.first, .int .u64 z.last, .int .u64 z.prom, .slice (some ⟨g, 0, none⟩) z.n z.n, .int .u64 z.bytes, .bool z.lost]] w
      fun e w' => ∃ a, e = .returned (.agg #[.string z.id, .string z.addr, .int .u64 z.first, .int .u64 z.last, .int .u64 z.prom, .slice (some ⟨g, 0, none⟩) z.n z.n, .int .u64 z.bytes, .bool z.lost, .iface 55 (.pointer (some a))]) ∧ Below w.heap.size w w' := failed_any z g w

theorem grown_of_below {w w' : World} (h : Below w.heap.size w w') (row : Option Nat) : w.grownBy w' row := ⟨h.os, h.tape, h.output, h.size, fun k hk _ => h.block k hk⟩
theorem own_below {w w' : World} {base : Nat} {e : TypeId} {size : Nat} {v : Value} {n : Nat} {xs : List Value} (h : w.ownsRow base e size v n xs) (hb : Below w.heap.size w w') : w'.ownsRow base e size v n xs :=
  h.kept (grown_of_below hb none) (by cases hv : v.ownBlock <;> simp)

/-- The cells of an element that has just been laid into a block of its own. -/
theorem news_cells (w : World) (c : Array Value) (t : TypeId) : ∀ (j : Nat) (u : Value), c.toList[j]? = some u → (w.alloc (.cells c t)).cell? ((⟨w.heap.size, 0, none⟩ : Addr).add j) = some u := by
  intro j u hu
  have e : (⟨w.heap.size, 0, none⟩ : Addr).add j = ⟨w.heap.size, j, none⟩ := by
    unfold Addr.add
    split
    · rename_i h; rw [h]
    · simp
  rw [e, World.cell?_alloc_at _ _ _ _ rfl]
  simpa using hu
theorem cs_one (z : ZS) (g : Nat) (err : Value) (h : ErrOk z err) : ∀ u ∈ (cs z g err).toList, u.oneCell' = true := by
  intro u hu
  simp only [cs, List.mem_cons, List.not_mem_nil, or_false] at hu
  rcases hu with rfl | rfl | rfl | rfl | rfl | rfl | rfl | rfl | rfl
  all_goals first | rfl | skip
  rcases h with ⟨_, rfl⟩ | ⟨_, a, rfl⟩ <;> rfl

/-- The loop's state: k elements are built. -/
def Bld (w wr : World) (n k : Nat) (L : List ZS) (v : Value) : Prop :=
  ∃ xs, v = .slice (some ⟨w.heap.size, 0, none⟩) k n ∧ wr.ownsRow w.heap.size 42 9 (.slice (some ⟨w.heap.size, 0, none⟩) k n) k xs ∧ Elems wr (fun g => w.heap.size < g) (L.take k) xs ∧ Below w.heap.size w wr

theorem bld_step {w wr wc w2 w3 : World} {n k : Nat} {L : List ZS} {z : ZS} {xs : List Value} {ge : Nat} {err : Value} {o : Obj} (HE : Elems wr (fun g => w.heap.size < g) (L.take k) xs) (HBe : Below w.heap.size w wr) (hlt : w.heap.size < wr.heap.size)
    (hb7 : Below wr.heap.size wr wc) (hb2 : Below wc.heap.size wc w2) (hg3 : (w2.alloc o).grownBy w3 (some w.heap.size))
    (hown3 : w3.ownsRow w.heap.size 42 9 (.slice (some ⟨w.heap.size, 0, none⟩) (k + 1) n) (k + 1) (xs ++ (cs z ge err).toList)) (hr : Rng wc ge z) (hge : wr.heap.size < ge) (herr : ErrOk z err) (hz : L[k]? = some z) :
    Bld w w3 n (k + 1) L (.slice (some ⟨w.heap.size, 0, none⟩) (k + 1) n) := by
  have hba : Below w2.heap.size w2 (w2.alloc o) := (Below.refl _ _).alloc (Nat.le_refl _) _
  have s1 := hb7.size
  have s2 := hb2.size
  have e1 := (((HE.below hb7).below hb2).below hba).kept hg3 (by intro g hg e; have := Option.some.inj e; omega)
  have e2 : Elem w3 (fun g => w.heap.size < g) z (cs z ge err).toList := ⟨ge, err, rfl, herr, ((hr.below hb2).below hba).kept hg3 (by intro e; have := Option.some.inj e; omega), by omega⟩
  refine ⟨_, rfl, hown3, ?_, ?_⟩
  · have : L.take (k + 1) = L.take k ++ [z] := by
      obtain ⟨hk, rfl⟩ := List.getElem?_eq_some_iff.1 hz
      rw [List.take_succ_eq_append_getElem hk]
    rw [this]
    exact e1.snoc e2
  · refine (((HBe.trans (hb7.mono (by omega))).trans (hb2.mono (by omega))).trans (hba.mono (by omega))).trans ?_
    refine ⟨hg3.os, hg3.tape, hg3.output, hg3.size, fun q hq => hg3.block q ?_ ?_⟩
    · have := hba.size; omega
    · intro e; have := Option.some.inj e; omega

end Go.Proofs.Qxb6615733a
