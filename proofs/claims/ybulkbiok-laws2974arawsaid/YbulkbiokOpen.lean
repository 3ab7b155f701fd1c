/-
  THE ARGUMENTS OPENED: a slice of bytes that came in.
-/
import Derived.Test.YbulkbiokBytes
import Derived.ProofKit
import Derived.OpenShut
import Derived.ShutString
import Derived.ChangeOld
import Derived.Deep.Slices
namespace Go.Proofs.Ybulkbiok
open Go Go.RowKit Go.ChangeShapes Go.WideShapes Go.Deep

theorem own : ownKnob Yba.prog.godebug = none := by kernel_rfl
theorem laidOut : laidOutB Yba.prog = true := by kernel_rfl
theorem c5 : Yba.prog.cellsOf 5 = 1 := by kernel_rfl
theorem c22 : Yba.prog.cellsOf 22 = 1 := by kernel_rfl

theorem cell_lt {w : World} {a : Addr} {v : Value} (h : w.cell? a = some v) : a.block < w.heap.size := World.block_lt_of_cell? _ _ h

section
variable {H : Type} {enc : TypeId × Value → H} {W : World} {base fuel : Nat} {sp : Nat → Bool} {held : Bool} {x : DataW H × List MemPlace}

theorem open_bytes {v : Value} (h : DataW.trod enc Yba.prog W base sp held fuel 22 [v] = some x) : ∃ a len cap D, v = .slice a len cap ∧ IsB W a len D := by
  rcases open_slice1 Yba.underlying22 c5 h with ⟨hcs, _⟩ | ⟨b, len, cap, m, n, V, D, Pl, hcs, _, hl, hm, hmm, _, hx⟩
  · simp at hcs
    exact ⟨none, 0, 0, [], hcs, rfl, by unfold maxLen; omega, fun h => absurd h (Nat.lt_irrefl _), by simp⟩
  · simp at hcs
    have hlm : len ≤ m := by rw [hmm]; split <;> omega
    obtain ⟨z, hz⟩ := choose_lt (α := Nat) (n := len) (p := fun i z => W.cell? (b.add i) = some (.int .u8 (z : Int)) ∧ z < 256) (fun i hi => by
      obtain ⟨h1, h2⟩ := hx i (by omega)
      obtain ⟨z, e1, _, e3⟩ := DataW.trod_int Yba.underlying5 h2
      have hb := bounds_u8 e3
      simp at e1
      exact ⟨z.toNat, by rw [h1, e1, Int.toNat_of_nonneg hb.1], by omega⟩)
    refine ⟨some b, len, cap, (List.range len).map z, hcs, by simp, by omega, fun hpos => ?_, ?_⟩
    · obtain ⟨b, off, spot⟩ := b
      have hspot : spot = none := by simpa [Addr.add] using World.cell?_spot (hz 0 hpos).1
      subst hspot
      refine ⟨b, off, rfl, ?_, fun i y hy => ?_⟩
      · have := cell_lt (hz 0 hpos).1
        simpa [Addr.add] using this
      · rw [List.getElem?_map] at hy
        obtain ⟨j, hj, rfl⟩ := Option.map_eq_some_iff.1 hy
        have hi : i < len := by
          rcases Nat.lt_or_ge i len with h' | h'
          · exact h'
          · rw [List.getElem?_eq_none (by simpa using h')] at hj; cases hj
        rw [List.getElem?_range hi] at hj
        cases hj
        have := (hz i hi).1
        rw [add_plain] at this
        exact this
    · intro y hy
      obtain ⟨i, hi, rfl⟩ := List.mem_map.1 hy
      exact (hz i (List.mem_range.1 hi)).2
end
end Go.Proofs.Ybulkbiok
