/-
  'Rows.LawS2974BNameKeyToldSaid', PROVED: the told card of LawS2974BNameKey. fmt is not come to on this road.
-/
import Derived.Test.YbulkbiokFmtCards
import Derived.Test.YbulkbiokFmtNameWalk
import Derived.ProofKit
import Derived.OpenShut
import Derived.ShutString
import Derived.ChangeOld
import Derived.Deep.Slices
import Derived.Stop.JoinedAt
import Derived.Stop.Texts
import Derived.Stop.JoinedTold
import Derived.SevenToldRow
namespace Go.Proofs.YbulkbiokFmt.lawS2974BNameKey
open Go.ChangeShapes Go.WideShapes Go.ChangeAt Go.RowKit Go.Deep
open Go.ChangeMaps (open_string shut_string)
open Go.Extern.Stop Go.Stop Go.Extern

theorem own : ownKnob Ybaf.prog.godebug = none := by kernel_rfl
theorem laidOut : laidOutB Ybaf.prog = true := by kernel_rfl
theorem c5 : Ybaf.prog.cellsOf 5 = 1 := by kernel_rfl
theorem cell_lt {w : World} {a : Addr} {v : Value} (h : w.cell? a = some v) : a.block < w.heap.size := World.block_lt_of_cell? _ _ h

section
variable {H : Type} {enc : TypeId × Value → H} {W : World} {base fuel : Nat} {sp : Nat → Bool} {held : Bool} {x : DataW H × List MemPlace}

theorem open_bytes {v : Value} (h : DataW.trod enc Ybaf.prog W base sp held fuel 22 [v] = some x) : ∃ a len cap D, v = .slice a len cap ∧ IsB W a len D := by
  rcases open_slice1 Ybaf.underlying22 c5 h with ⟨hcs, _⟩ | ⟨b, len, cap, m, n, V, D, Pl, hcs, _, hl, hm, hmm, _, hx⟩
  · simp at hcs
    exact ⟨none, 0, 0, [], hcs, rfl, by unfold maxLen; omega, fun h => absurd h (Nat.lt_irrefl _), by simp⟩
  · simp at hcs
    have hlm : len ≤ m := by rw [hmm]; split <;> omega
    obtain ⟨z, hz⟩ := choose_lt (α := Nat) (n := len) (p := fun i z => W.cell? (b.add i) = some (.int .u8 (z : Int)) ∧ z < 256) (fun i hi => by
      obtain ⟨h1, h2⟩ := hx i (by omega)
      obtain ⟨z, e1, _, e3⟩ := DataW.trod_int Ybaf.underlying5 h2
      have hb := bounds_u8 e3
      simp at e1
      exact ⟨z.toNat, by rw [h1, e1, Int.toNat_of_nonneg hb.1], by omega⟩)
    refine ⟨some b, len, cap, (List.range len).map z, hcs, by simp, by omega, fun hpos => ?_, ?_⟩
    · obtain ⟨b, off, spot⟩ := b
      have hspot : spot = none := by simpa [Addr.add] using World.cell?_spot (hz 0 hpos).1
      subst hspot
      refine ⟨b, off, rfl, ?_, fun i y hy => ?_⟩
      · have := cell_lt (hz 0 hpos).1
        simpa [Addr.add] using this
      · rw [List.getElem?_map] at hy
        obtain ⟨j, hj, rfl⟩ := Option.map_eq_some_iff.1 hy
        have hi : i < len := by
          rcases Nat.lt_or_ge i len with h' | h'
          · exact h'
          · rw [List.getElem?_eq_none (by simpa using h')] at hj; cases hj
        rw [List.getElem?_range hi] at hj
        cases hj
        have := (hz i hi).1
        rw [add_plain] at this
        exact this
    · intro y hy
      obtain ⟨i, hi, rfl⟩ := List.mem_map.1 hy
      exact (hz i (List.mem_range.1 hi)).2
end

theorem walk (path : ByteArray) (first : Int) (a : Option Addr) (len cap : Nat) (D : List Nat) (w : World) (hf0 : 0 ≤ first) (hf1 : first ≤ 255) (h : IsB w a len D) :
    Calls Ybaf.prog 3 #[.string path, .int .u8 first, .slice a len cap] w fun e w' => e = .returned (.bool true) ∧ Below w.heap.size w w' := by
  by_cases hl : 1024 < len ∨ 4096 < path.size
  · exact namekey_long path first a len cap w hl
  · exact namekey_walk path first a len cap D w (by omega) (by omega) hf0 hf1 h

set_option maxRecDepth 100000 in
theorem lifted (os : Os) (started : os.Started) (H : Type) (enc : TypeId × Value → H) :
    ReturnsInTold none {} Ybaf.checked os 3 .any Input.okWide ((OpenSpec.ofChange Rows.lawS2974BNameKeySpec).preRow enc Ybaf.prog Ybaf.f3 [] false []) (fun F => ((OpenSpec.ofChange Rows.lawS2974BNameKeySpec).at F).post enc Ybaf.prog Ybaf.f3 false true false false) (aloneAtReturn Ybaf.prog) nothingAlways := by
  refine returnsInTold_of_row (C := Ybaf.checked) (s := OpenSpec.ofChange Rows.lawS2974BNameKeySpec) (by kernel_rfl) own started (by kernel_rfl) Ybaf.func3
    (OpenSpec.witness_stopped (enc := enc) (C := Ybaf.checked) false ⟨#[], #[.string ⟨#[]⟩, .int .u8 0, .slice none 0 0], []⟩ 8 (by kernel_rfl) (by kernel_rfl) (by kernel_rfl) (by kernel_rfl)) ?_
  intro F W base args ds gs before _ hF hval0 hW _ _ hsz _ _
  have hval : ∀ (j : Nat) t v, Ybaf.f3.params[j]? = some t → args[j]? = some v → Value.okWide Ybaf.prog W .any base t v := hval0
  have hW' := hW
  obtain ⟨p, q, hA0, hV, rfl, hfz, hnd⟩ := hW
  have hA : DataW.TrodAll enc Ybaf.prog W 0 (fun _ => true) true Ybaf.f3.params.toList args.toList ds p := hA0
  rw [Ybaf.params3] at hA hval
  obtain ⟨v0, vs0, d0, ds0, p0, q0, hargs, rfl, rfl, h0, r0⟩ := trodAll_cons hA
  obtain ⟨v1, vs1, d1, ds1, p1, q1, rfl, rfl, rfl, h1, r1⟩ := trodAll_cons r0
  obtain ⟨v2, vs2, d2, ds2, p2, q2, rfl, rfl, rfl, h2, r2⟩ := trodAll_cons r1
  obtain ⟨rfl, rfl, rfl⟩ := trodAll_nil r2
  obtain rfl : args = #[v0, v1, v2] := by cases args; simp_all
  obtain ⟨rfl, rfl⟩ := trodVars_none hV
  obtain ⟨path, rfl, rfl, rfl, wpath⟩ := open_string Ybaf.underlying9 (hval 0 9 v0 rfl rfl) h0
  obtain ⟨a1, rfl, rfl, rfl, w1⟩ := open_int Ybaf.underlying5 (hval 1 5 v1 rfl rfl) h1
  obtain ⟨a2, len2, cap2, rfl⟩ := okWide_slice Ybaf.underlying22 (hval 2 22 v2 rfl rfl)
  have k2 := h2
  have lt2 : ∀ x ∈ p2, x.block < W.heap.size := by obtain ⟨m, hm⟩ := k2; exact DataW.trod_lt m _ _ _ hm
  obtain ⟨D, w2⟩ : ∃ D, IsB W a2 len2 D := by
    obtain ⟨fuel, hf⟩ := h2
    obtain ⟨a', l', c', D, e, hD⟩ := open_bytes (v := .slice a2 len2 cap2) (by simpa [Value.cells] using hf)
    cases e
    exact ⟨D, hD⟩
  clear hA0 hval0
  have hb1 := bounds_u8 w1
  refine (walk path a1 a2 len2 cap2 D W hb1.1 hb1.2 w2).mono fun e W' ⟨he, bel⟩ => ?_
  subst he
  exact ⟨_, rfl, _, _, _, [], _, [], hW', trodAll_mk1 (shut_bool Ybaf.underlying4 _), (trodAll_cons_mk (shut_string Ybaf.underlying9 wpath) (trodAll_cons_mk (shut_int Ybaf.underlying5 w1) (trodAll_cons_mk (Below.trod laidOut (by kernel_rfl) (of_decide_eq_true (by kernel_rfl)) k2 bel lt2) trodAll_mk0))), rfl, bel.frame _, fun h => by cases h⟩

theorem stops : Ybaf.pinned.checked.prog.stops = ["fmt.Sprintf"] := by kernel_rfl
theorem stopKnobs : Ybaf.pinned.checked.prog.stopKnobs = [] := by kernel_rfl
theorem quiet (os : Os) : Stop.quiet Ybaf.pinned.checked.prog os := by
  intro k hk
  rw [stopKnobs] at hk
  cases hk

theorem proved : Rows.LawS2974BNameKeyToldSaid :=
  Claim7.holds_of_told_any 3 Ybaf.f3 "fmt.Sprintf" [] [] _ _ _ (by kernel_rfl) rfl rfl rfl laidOut (by kernel_rfl) rfl ⟨rfl, rfl, rfl, rfl, rfl, rfl, rfl⟩ rfl rfl (by kernel_rfl) (by kernel_rfl) Ybaf.func3 (by kernel_rfl)
    (of_decide_eq_true (by kernel_rfl)) (of_decide_eq_true (by kernel_rfl)) stops.symm rfl stopKnobs.symm (by kernel_rfl)
    (by kernel_rfl) (by kernel_rfl) (by kernel_rfl) (by kernel_rfl) (by kernel_rfl) (by kernel_rfl) (by kernel_rfl) (by kernel_rfl) (by kernel_rfl) rfl (by kernel_rfl) rfl rfl
    rfl rfl
    rfl (by kernel_rfl) (by kernel_rfl) (by kernel_rfl) (by decide) (by kernel_rfl)
    (OpenClaim.moreEntering_of (by kernel_rfl) (by kernel_rfl) (by kernel_rfl) (by kernel_rfl) (by kernel_rfl) (by kernel_rfl) (by kernel_rfl) (by kernel_rfl) (by kernel_rfl) (by kernel_rfl))
    ⟨_, WideRow.started_initial, quiet _⟩
    (fun os started _ H enc _ => lifted os started H enc)
end Go.Proofs.YbulkbiokFmt.lawS2974BNameKey
