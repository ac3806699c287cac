/- zzSameAs, zzSameCS, where the two are the same. -/
import Derived.Test.Qxb6615733aState
import Derived.Deep.QuietTactic
import Derived.BigQuiet
namespace Go.Proofs.Qxb6615733a
open Go.RowKit

/-- The ranges' cells at the k-th place. -/
theorem sa_cells {w wr : World} {z : ZS} {g : Nat} {k : Nat} (hb : Below w.heap.size w wr) (hr : Rng w g z) (ha : Arg w z) (hk : k < z.n) :
    ∃ b off, z.ep = some ⟨b, off, none⟩ ∧ wr.cell? ⟨g, k * 2, none⟩ = some (.int .u64 (z.es (2 * k))) ∧ wr.cell? ⟨g, k * 2 + 1, none⟩ = some (.int .u64 (z.es (2 * k + 1))) ∧
      wr.cell? ⟨b, off + k * 2, none⟩ = some (.int .u64 (z.es (2 * k))) ∧ wr.cell? ⟨b, off + k * 2 + 1, none⟩ = some (.int .u64 (z.es (2 * k + 1))) := by
  obtain ⟨b, off, h1, h2, h3⟩ := ha (2 * k) (by omega)
  obtain ⟨b', off', h1', h2', h3'⟩ := ha (2 * k + 1) (by omega)
  rw [h1] at h1'
  cases h1'
  refine ⟨b, off, h1, ?_, ?_, ?_, ?_⟩
  · rw [hb.cell (p := ⟨g, k * 2, none⟩) hr.1, show k * 2 = 2 * k from by omega]; exact hr.2 _ (by omega)
  · rw [hb.cell (p := ⟨g, k * 2 + 1, none⟩) hr.1, show k * 2 + 1 = 2 * k + 1 from by omega]; exact hr.2 _ (by omega)
  · rw [hb.cell (p := ⟨b, off + k * 2, none⟩) h2, show off + k * 2 = off + 2 * k from by omega]; exact h3
  · rw [hb.cell (p := ⟨b, off + k * 2 + 1, none⟩) h2, show off + k * 2 + 1 = off + (2 * k + 1) from by omega]; exact h3'

set_option maxHeartbeats 1000000 in
theorem sameas_any (z : ZS) (g : Nat) (err : Value) (w : World) (hn : z.n ≤ 65536) (herr : ErrOk z err) (hr : Rng w g z) (ha : Arg w z) :
    Calls Try.prog 9 #[.agg #[.string z.id, .string z.addr, .int .u64 z.first, .int .u64 z.last, .int .u64 z.prom, .slice (some ⟨g, 0, none⟩) z.n z.n, .int .u64 z.bytes, .bool z.lost, err],
      .agg #[.string z.id, .string z.addr, .int .u64 z.first, .int .u64 z.last, .int .u64 z.prom, .slice z.ep z.n z.cap, .int .u64 z.bytes, .bool z.lost, .bool z.failed]] w
      fun e w' => e = .returned (.bool true) ∧ Below w.heap.size w w' := by
  obtain ⟨n, hnn⟩ : ∃ n, n = z.n := ⟨_, rfl⟩
  obtain ⟨ep, hep⟩ : ∃ ep, ep = z.ep := ⟨_, rfl⟩
  have HN := hide hnn
  have HEp := hide hep
  have HA := hide ha
  have HR := hide hr
  rw [← hnn, ← hep]
  rw [← hnn] at hn
  clear ha hr hnn hep
  rcases herr with ⟨hf, rfl⟩ | ⟨hf, a, rfl⟩
  all_goals
    go_enter Try.func9, Try.ntmps9
    go_wp2
    go_quiet (fail)
    go_wp2
    go_loopg [6] n (fun gk i wr => ∃ k : Nat, k + gk = n ∧ i = .int .i64 k ∧ wr.cell? ⟨w.heap.size + 1 + 1, 3, none⟩ = some (.slice (some ⟨g, 0, none⟩) n n) ∧ wr.cell? ⟨w.heap.size + 1, 5, none⟩ = some (.slice ep n z.cap) ∧ Below w.heap.size w wr)
    case atStart =>
      exact ⟨0, by omega, rfl, by go_simp, by go_simp, (below_drewN (((Below.refl _ _).alloc (Nat.le_refl _) _).alloc (by simp) _) _).alloc (by simp; omega) _⟩
    case round =>
      obtain ⟨k, hk, rfl, f3, f5, hb⟩ := hrel
      by_cases hlt : k < n
      · obtain ⟨b, off, hep, e1, e2, e3, e4⟩ := sa_cells hb HR.out HA.out (k := k) (by rw [← HN.out]; exact hlt)
        have hep' : ep = some ⟨b, off, none⟩ := by rw [HEp.out]; exact hep
        clear hep
        subst hep'
        have l1 : (k : Int) < (n : Int) := by omega
        have HB := hide hb
        clear hb HR HA HN HEp
        go_wp2
        go_quiet (fail)
        go_wp2
        go_roundg (gk - 1)
        case measure => omega
        case rel => exact ⟨k + 1, by omega, by go_num, by simpa using f3, by simpa using f5, below_drewN HB.out _⟩
      · have HB := hide hb
        clear hb
        go_wp2
        go_ret
        exact ⟨rfl, HB.out⟩

/-- The ranges' cells of two copies of one state. -/
theorem sc_cells {w wr : World} {z : ZS} {g : Nat} {k : Nat} (hb : Below w.heap.size w wr) (hr : Rng w g z) (hk : k < z.n) :
    wr.cell? ⟨g, k * 2, none⟩ = some (.int .u64 (z.es (2 * k))) ∧ wr.cell? ⟨g, k * 2 + 1, none⟩ = some (.int .u64 (z.es (2 * k + 1))) := by
  refine ⟨?_, ?_⟩
  · rw [hb.cell (p := ⟨g, k * 2, none⟩) hr.1, show k * 2 = 2 * k from by omega]; exact hr.2 _ (by omega)
  · rw [hb.cell (p := ⟨g, k * 2 + 1, none⟩) hr.1, show k * 2 + 1 = 2 * k + 1 from by omega]; exact hr.2 _ (by omega)

set_option maxHeartbeats 1000000 in
theorem samecs_any (z : ZS) (g g' : Nat) (err err' : Value) (w : World) (hn : z.n ≤ 65536) (herr : ErrOk z err) (herr' : ErrOk z err') (hr : Rng w g z) (hr' : Rng w g' z) :
    Calls Try.prog 11 #[.agg #[.string z.id, .string z.addr, .int .u64 z.first, .int .u64 z.last, .int .u64 z.prom, .slice (some ⟨g, 0, none⟩) z.n z.n, .int .u64 z.bytes, .bool z.lost, err],
      .agg #[.string z.id, .string z.addr, .int .u64 z.first, .int .u64 z.last, .int .u64 z.prom, .slice (some ⟨g', 0, none⟩) z.n z.n, .int .u64 z.bytes, .bool z.lost, err']] w
      fun e w' => e = .returned (.bool true) ∧ Below w.heap.size w w' := by
  obtain ⟨n, hnn⟩ : ∃ n, n = z.n := ⟨_, rfl⟩
  have HN := hide hnn
  have HR := hide hr
  have HR' := hide hr'
  rw [← hnn]
  rw [← hnn] at hn
  clear hr hr' hnn
  have key : (∃ a b, err = .iface 55 (.pointer (some a)) ∧ err' = .iface 55 (.pointer (some b))) ∨ (err = .nilIface ∧ err' = .nilIface) := by
    rcases herr with ⟨hf, h⟩ | ⟨hf, a, h⟩ <;> rcases herr' with ⟨hf', h'⟩ | ⟨hf', b, h'⟩
    · exact .inr ⟨h, h'⟩
    · rw [hf] at hf'; cases hf'
    · rw [hf] at hf'; cases hf'
    · exact .inl ⟨a, b, h, h'⟩
  clear herr herr'
  rcases key with ⟨a, b, rfl, rfl⟩ | ⟨rfl, rfl⟩
  all_goals
    go_enter Try.func11, Try.ntmps11
    go_wp2
    go_quiet (fail)
    go_wp2
    go_loopg [7] n (fun gk i wr => ∃ k : Nat, k + gk = n ∧ i = .int .i64 k ∧ wr.cell? ⟨w.heap.size + 1 + 1, 3, none⟩ = some (.slice (some ⟨g, 0, none⟩) n n) ∧ wr.cell? ⟨w.heap.size + 1 + 1 + 1, 3, none⟩ = some (.slice (some ⟨g', 0, none⟩) n n) ∧ Below w.heap.size w wr)
    case atStart =>
      exact ⟨0, by omega, rfl, by go_simp, by go_simp, ((below_drewN (((Below.refl _ _).alloc (Nat.le_refl _) _).alloc (by simp) _) _).alloc (by simp; omega) _).alloc (by simp; omega) _⟩
    case round =>
      obtain ⟨k, hk, rfl, f3, f5, hb⟩ := hrel
      by_cases hlt : k < n
      · obtain ⟨e1, e2⟩ := sc_cells hb HR.out (k := k) (by rw [← HN.out]; exact hlt)
        obtain ⟨e3, e4⟩ := sc_cells hb HR'.out (k := k) (by rw [← HN.out]; exact hlt)
        have l1 : (k : Int) < (n : Int) := by omega
        have HB := hide hb
        clear hb HR HR' HN
        go_wp2
        go_quiet (fail)
        go_wp2
        go_roundg (gk - 1)
        case measure => omega
        case rel => exact ⟨k + 1, by omega, by go_num, by simpa using f3, by simpa using f5, below_drewN HB.out _⟩
      · have HB := hide hb
        clear hb
        go_wp2
        go_ret
        exact ⟨rfl, HB.out⟩

end Go.Proofs.Qxb6615733a
