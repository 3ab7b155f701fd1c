/-
  A SLICE OF BYTES AS IT IS READ; the plain functions that 'compactEnd', 'compact' compute; the contracts of compactEnd and of slices.Equal.
-/
import Derived.Test.YbulkbiokRows
import Derived.WalkKit
import Derived.Below
import Derived.Deep.QuietTactic
import Derived.BigQuiet
import Derived.WalkSmall
namespace Go.Proofs.Ybulkbiok
open Go Go.RowKit

/-- A slice of bytes: where it has an element it leads to a row of cells that hold D. -/
def IsB (w : World) (a : Option Addr) (len : Nat) (D : List Nat) : Prop :=
  D.length = len ∧ len ≤ maxLen ∧ (0 < len → ∃ b off, a = some ⟨b, off, none⟩ ∧ b < w.heap.size ∧ ∀ (i x : Nat), D[i]? = some x → w.cell? ⟨b, off + i, none⟩ = some (.int .u8 (x : Int))) ∧ ∀ x ∈ D, x < 256

theorem IsB.below {w w' : World} {a : Option Addr} {len : Nat} {D : List Nat} (h : IsB w a len D) {B : Nat} (hb : Below B w w') (hB : w.heap.size ≤ B) : IsB w' a len D := by
  obtain ⟨h1, h2, h3, h4⟩ := h
  refine ⟨h1, h2, fun hl => ?_, h4⟩
  obtain ⟨b, off, e, hbl, hc⟩ := h3 hl
  exact ⟨b, off, e, Nat.lt_of_lt_of_le hbl hb.size, fun i x hx => (hb.cell (p := ⟨b, off + i, none⟩) (Nat.lt_of_lt_of_le hbl hB)).trans (hc i x hx)⟩

/-- How far the compact message at the front of D reaches, for a frame of round q + 1; 0 where it is not compact. -/
def ce (D : List Nat) (q : Nat) : Nat :=
  if D.length < q + 1 then 0
  else if 128 ≤ D[q]?.getD 0 ∨ D.length ≤ q + 1 + D[q]?.getD 0 then 0
  else if 128 ≤ D[q + 1 + D[q]?.getD 0]?.getD 0 ∨ D.length < q + 1 + D[q]?.getD 0 + 1 + D[q + 1 + D[q]?.getD 0]?.getD 0 * 64 then 0
  else q + 1 + D[q]?.getD 0 + 1 + D[q + 1 + D[q]?.getD 0]?.getD 0 * 64

theorem get_some {D : List Nat} {i : Nat} (h : i < D.length) : ∃ x, D[i]? = some x := ⟨_, List.getElem?_eq_getElem h⟩

theorem ret_int {k : IntKind} {a b : Int} (h : a = b) : Ending.returned (.int k a) = .returned (.int k b) := by rw [h]

set_option maxHeartbeats 1000000 in
set_option maxRecDepth 100000 in
theorem ce_any (a : Option Addr) (len cap : Nat) (D : List Nat) (R : Int) (q : Nat) (hq : R = (q : Int) + 1) (hq4 : q ≤ 4) (w : World) (h : IsB w a len D) :
    Calls Yba.prog 8 #[.slice a len cap, .int .i64 R] w fun e w' => e = .returned (.int .i64 (ce D q : Nat)) ∧ w' = w := by
  subst hq
  obtain ⟨hlen, hmax, hcell, hby⟩ := h
  unfold maxLen at hmax
  by_cases h1 : len < q + 1
  · have HR : Hid (ce D q = 0) := by show _ = _; unfold ce; rw [if_pos (by omega)]
    go_enter Yba.func8, Yba.ntmps8
    go_wp2
    go_ret
    exact ⟨ret_int (by rw [HR.out]; rfl), rfl⟩
  obtain ⟨b, off, rfl, hb, hc⟩ := hcell (by omega)
  obtain ⟨s, hs⟩ := get_some (D := D) (i := q) (by omega)
  have hcs := hc q s hs
  have hsb := hby s (List.mem_of_getElem? hs)
  by_cases h2 : 128 ≤ s ∨ len ≤ q + 1 + s
  · have HR : Hid (ce D q = 0) := by show _ = _; unfold ce; rw [if_neg (by omega), hs, if_pos (by simp only [Option.getD_some]; omega)]
    clear hc hcell hby hs
    by_cases h3 : 128 ≤ s
    · go_enter Yba.func8, Yba.ntmps8
      go_wp2
      go_ret
      exact ⟨ret_int (by rw [HR.out]; rfl), rfl⟩
    · go_enter Yba.func8, Yba.ntmps8
      go_wp2
      go_ret
      exact ⟨ret_int (by rw [HR.out]; rfl), rfl⟩
  obtain ⟨c, hcc⟩ := get_some (D := D) (i := q + 1 + s) (by omega)
  have hccs := hc (q + 1 + s) c hcc
  have hcb := hby c (List.mem_of_getElem? hcc)
  by_cases h4 : 128 ≤ c ∨ len < q + 1 + s + 1 + c * 64
  · have HR : Hid (ce D q = 0) := by
      show _ = _; unfold ce; rw [if_neg (by omega), hs]; simp only [Option.getD_some]; rw [hcc, if_neg (by omega)]; simp only [Option.getD_some]; rw [if_pos (by omega)]
    clear hc hcell hby hs hcc
    have h3 : ¬ 128 ≤ s := by omega
    have h5 : ¬ len ≤ q + 1 + s := by omega
    clear h2
    by_cases h6 : 128 ≤ c
    · go_enter Yba.func8, Yba.ntmps8
      go_wp2
      go_ret
      exact ⟨ret_int (by rw [HR.out]; rfl), rfl⟩
    · go_enter Yba.func8, Yba.ntmps8
      go_wp2
      go_ret
      exact ⟨ret_int (by rw [HR.out]; rfl), rfl⟩
  · have HR : Hid (ce D q = q + 1 + s + 1 + c * 64) := by
      show _ = _; unfold ce; rw [if_neg (by omega), hs]; simp only [Option.getD_some]; rw [hcc, if_neg (by omega)]; simp only [Option.getD_some]; rw [if_neg (by omega)]
    clear hc hcell hby hs hcc
    have h3 : ¬ 128 ≤ s := by omega
    have h5 : ¬ len ≤ q + 1 + s := by omega
    have h6 : ¬ 128 ≤ c := by omega
    have h7 : ¬ len < q + 1 + s + 1 + c * 64 := by omega
    clear h2 h4
    go_enter Yba.func8, Yba.ntmps8
    go_wp2
    go_ret
    exact ⟨ret_int (by rw [HR.out]; push_cast; omega), rfl⟩

set_option maxHeartbeats 1000000 in
set_option maxRecDepth 100000 in
/-- slices.Equal at two slices that hold the same bytes. -/
theorem eq_any (a a' : Option Addr) (len cap cap' : Nat) (D : List Nat) (w : World) (h : IsB w a len D) (h' : IsB w a' len D) :
    Calls Yba.prog 7 #[.slice a len cap, .slice a' len cap'] w fun e w' => e = .returned (.bool true) ∧ ∃ m, w' = w.drewN m := by
  obtain ⟨hlen, hmax, hcell, hby⟩ := h
  obtain ⟨_, _, hcell', _⟩ := h'
  unfold maxLen at hmax
  have hne : ((len : Int) != (len : Int)) = false := by simp
  go_enter Yba.func7, Yba.ntmps7
  go_wp2
  go_loopw [13] (fun i wr => ∃ k m : Nat, k ≤ len ∧ i = .int .i64 k ∧ wr = w.drewN m) (fun i _ => len - (intOf i).toNat)
  case atStart => exact ⟨0, 0, Nat.zero_le _, rfl, rfl⟩
  case round =>
    obtain ⟨k, m, hk, rfl, rfl⟩ := hrel
    by_cases hlt : k < len
    · obtain ⟨b, off, rfl, hb, hc⟩ := hcell (by omega)
      obtain ⟨b', off', rfl, hb', hc'⟩ := hcell' (by omega)
      obtain ⟨x, hx⟩ := get_some (D := D) (i := k) (by omega)
      have c1 := hc k x hx
      have c2 := hc' k x hx
      have hkI : (k : Int) < (len : Int) := by omega
      have hk0 : (0 : Int) ≤ (k : Int) := by omega
      clear hcell hcell' hc hc' hby
      go_wp2
      go_quiet (fail)
      go_wp2
      go_roundw
      case rel => exact ⟨k + 1, m + nq, by omega, by go_num, rfl⟩
      case measure => simp [intOf]; omega
    · go_wp2
      go_ret
      exact ⟨rfl, m, rfl⟩
end Go.Proofs.Ybulkbiok
