/-
  THE ARGUMENTS OPENED: what the walks are told of a slice that came in.
-/
import Derived.Test.YbulkbiniModelCall
import Derived.ProofKit
import Derived.OpenShut
import Derived.ShutString
import Derived.ChangeOld
import Derived.Deep.Strs
namespace Go.Proofs.Ybulkbini
open Go Go.RowKit Go.ChangeShapes Go.WideShapes Go.Deep

theorem c36 : Yba.prog.cellsOf 36 = 3 := by kernel_rfl
theorem c5 : Yba.prog.cellsOf 5 = 1 := by kernel_rfl
theorem c3 : Yba.prog.cellsOf 3 = 1 := by kernel_rfl
theorem c4 : Yba.prog.cellsOf 4 = 1 := by kernel_rfl

section
variable {H : Type} {enc : TypeId × Value → H} {W : World} {base fuel : Nat} {sp : Nat → Bool} {held : Bool} {a : Option Addr} {len cap : Nat} {x : DataW H × List MemPlace}

theorem open_int_row {t e : TypeId} {k : IntKind} (ht : Yba.prog.underlying t = some (.slice e)) (he : Yba.prog.underlying e = some (.int k)) (hc : Yba.prog.cellsOf e = 1) (h : DataW.trod enc Yba.prog W base sp held fuel t [.slice a len cap] = some x) :
    ∃ zs, IsInts k W a len zs := by
  rcases open_slice1 ht hc h with ⟨hcs, _⟩ | ⟨b, l, c, m, n, V, D, Pl, hcs, _, hl, hm, hmm, _, hx⟩
  · simp at hcs
    obtain ⟨rfl, rfl, rfl⟩ := hcs
    exact ⟨[], rfl, by unfold maxLen; omega, fun h => absurd h (Nat.lt_irrefl _), by simp⟩
  · simp at hcs
    obtain ⟨rfl, rfl, rfl⟩ := hcs
    have hlm : len ≤ m := by rw [hmm]; split <;> omega
    obtain ⟨z, hz⟩ := choose_lt (α := Int) (n := len) (p := fun i z => W.cell? (b.add i) = some (.int k z) ∧ (Lit.int k z).wf = true) (fun i hi => by
      obtain ⟨h1, h2⟩ := hx i (by omega)
      obtain ⟨z, e1, _, e3⟩ := DataW.trod_int he h2
      simp at e1
      exact ⟨z, by rw [h1, e1], e3⟩)
    refine ⟨(List.range len).map z, by simp, by omega, fun hpos => ?_, ?_⟩
    · obtain ⟨b, off, spot⟩ := b
      have hspot : spot = none := by simpa [Addr.add] using World.cell?_spot (hz 0 hpos).1
      subst hspot
      refine ⟨b, off, rfl, ?_, fun i hi => ?_⟩
      · have := cell_lt (hz 0 hpos).1
        simpa [Addr.add] using this
      · have := (hz i hi).1
        rw [add_plain] at this
        simpa [hi] using this
    · intro y hy
      obtain ⟨i, hi, rfl⟩ := List.mem_map.1 hy
      exact (hz i (List.mem_range.1 hi)).2

theorem ent_cells {cs : List Value} {b : Addr} {i k : Nat} {y0 y1 y2 : DataW H × List MemPlace} (hlen : cs.length = 3) (hcell : ∀ j, j < 3 → W.cell? ((b.add (i * 3)).add j) = cs[j]?)
    (t0 : DataW.trod enc Yba.prog W base sp held k 5 ((cs.drop 0).take (Yba.prog.cellsOf 5)) = some y0) (t1 : DataW.trod enc Yba.prog W base sp held k 3 ((cs.drop 1).take (Yba.prog.cellsOf 3)) = some y1)
    (t2 : DataW.trod enc Yba.prog W base sp held k 4 ((cs.drop 2).take (Yba.prog.cellsOf 4)) = some y2) :
    ∃ z : Int × Int × Bool, W.cell? (b.add (i * 3)) = some (.int .u8 z.1) ∧ W.cell? (b.add (i * 3 + 1)) = some (.int .i64 z.2.1) ∧ W.cell? (b.add (i * 3 + 2)) = some (.bool z.2.2) ∧ 0 ≤ z.1 ∧ z.1 ≤ 255 := by
  rw [c5] at t0
  rw [c3] at t1
  rw [c4] at t2
  match cs, hlen with
  | [v0, v1, v2], _ =>
    simp at t0 t1 t2
    obtain ⟨n0, e0, _, w0⟩ := DataW.trod_int Yba.underlying5 t0
    obtain ⟨n1, e1, _, w1⟩ := DataW.trod_int Yba.underlying3 t1
    obtain ⟨n2, e2, _⟩ := DataW.trod_bool Yba.underlying4 t2
    simp at e0 e1 e2
    subst e0 e1 e2
    have g0 := hcell 0 (by omega)
    have g1 := hcell 1 (by omega)
    have g2 := hcell 2 (by omega)
    rw [add_add] at g0 g1 g2
    have hb := bounds_u8 w0
    exact ⟨(n0, n1, n2), by simpa using g0, by simpa using g1, by simpa using g2, hb.1, hb.2⟩

set_option maxRecDepth 100000 in
theorem open_ents (h : DataW.trod enc Yba.prog W base sp held fuel 22 [.slice a len cap] = some x) : ∃ E, IsEnts W a len E := by
  rcases open_slice Yba.underlying22 h with ⟨hcs, _⟩ | ⟨b, l, c, m, n, D, Pl, hcs, _, hl, hm, hmm, _, hx⟩
  · simp at hcs
    obtain ⟨rfl, rfl, rfl⟩ := hcs
    exact ⟨[], rfl, by unfold maxLen; omega, fun h => absurd h (Nat.lt_irrefl _), by simp⟩
  · simp at hcs
    obtain ⟨rfl, rfl, rfl⟩ := hcs
    have hlm : len ≤ m := by rw [hmm]; split <;> omega
    obtain ⟨z, hz⟩ := choose_lt (α := Int × Int × Bool) (n := len) (p := fun i z => W.cell? (b.add (i * 3)) = some (.int .u8 z.1) ∧ W.cell? (b.add (i * 3 + 1)) = some (.int .i64 z.2.1) ∧ W.cell? (b.add (i * 3 + 2)) = some (.bool z.2.2) ∧ 0 ≤ z.1 ∧ z.1 ≤ 255) (fun i hi => by
      obtain ⟨cs, h1, h2⟩ := hx i (by omega)
      rw [c36] at h1
      obtain ⟨_, hlen, hcell⟩ := World.cells?_some h1
      obtain ⟨y0, y1, y2, k, _, _, t0, t1, t2⟩ := trod_struct3 Yba.underlying36 h2
      exact ent_cells hlen hcell t0 t1 t2)
    refine ⟨(List.range len).map z, by simp, by omega, fun hpos => ?_, ?_⟩
    · obtain ⟨b, off, spot⟩ := b
      have hspot : spot = none := by simpa [Addr.add] using World.cell?_spot (hz 0 hpos).1
      subst hspot
      refine ⟨b, off, rfl, ?_, fun i e he => ?_⟩
      · have := cell_lt (hz 0 hpos).1
        simpa [Addr.add] using this
      · rw [List.getElem?_map] at he
        obtain ⟨j, hj, rfl⟩ := Option.map_eq_some_iff.1 he
        have hi : i < len := by
          rcases Nat.lt_or_ge i len with h' | h'
          · exact h'
          · rw [List.getElem?_eq_none (by simpa using h')] at hj; cases hj
        rw [List.getElem?_range hi] at hj
        cases hj
        obtain ⟨q1, q2, q3, _⟩ := hz i hi
        rw [add_plain] at q1 q2 q3
        exact ⟨q1, q2, q3⟩
    · intro y hy
      obtain ⟨i, hi, rfl⟩ := List.mem_map.1 hy
      exact (hz i (List.mem_range.1 hi)).2.2.2
end
end Go.Proofs.Ybulkbini
