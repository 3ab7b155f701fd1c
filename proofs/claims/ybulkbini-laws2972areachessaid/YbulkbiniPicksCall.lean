/-
  '(*callerInput).picks' BY ITS CONTRACT.
-/
import Derived.Test.YbulkbiniKeys
import Derived.WalkKit
import Derived.Below
namespace Go.Proofs.Ybulkbini
open Go Go.RowKit

/-- A slice of ints that is read: where it has an element it leads to a row of cells that hold 'zs'. -/
def IsInts (k : IntKind) (w : World) (a : Option Addr) (len : Nat) (zs : List Int) : Prop :=
  zs.length = len ∧ len ≤ maxLen ∧ (0 < len → ∃ b off, a = some ⟨b, off, none⟩ ∧ b < w.heap.size ∧ ∀ i, i < len → w.cell? ⟨b, off + i, none⟩ = some (.int k (zs[i]?.getD 0))) ∧ ∀ n ∈ zs, (Lit.int k n).wf = true

theorem IsInts.below {k : IntKind} {w w' : World} {a : Option Addr} {len : Nat} {zs : List Int} (h : IsInts k w a len zs) {B : Nat} (hb : Below B w w') (hB : w.heap.size ≤ B) : IsInts k w' a len zs := by
  obtain ⟨h1, h2, h3, h4⟩ := h
  refine ⟨h1, h2, fun hl => ?_, h4⟩
  obtain ⟨b, off, e, hbl, hc⟩ := h3 hl
  exact ⟨b, off, e, Nat.lt_of_lt_of_le hbl hb.size, fun i hi => (hb.cell (p := ⟨b, off + i, none⟩) (Nat.lt_of_lt_of_le hbl hB)).trans (hc i hi)⟩

theorem zero4 (w : World) : (zeroValue 4).run Yba.prog w = .ok (.bool false) w := by kernel_rfl

theorem three_alloc {w : World} {B : Nat} (h : Three w B) (o : Obj) : Three (w.alloc o) B := h.of_block fun j hj => by
  obtain ⟨cs, t, hh⟩ := h j hj
  refine Below.heap_alloc _ _ _ ?_
  rcases Nat.lt_or_ge (B + j) w.heap.size with h | h
  · exact h
  · rw [Array.getElem?_eq_none h] at hh; cases hh

theorem map_lt {K : Type} [DecidableEq K] {w : World} {M n : Nat} {kf : K → Value} {V : K → Prop} {f : K → Bool} (h : MapHas w M kf V n f) : M < w.heap.size := by
  obtain ⟨L, c, hh, _⟩ := h
  rcases Nat.lt_or_ge M w.heap.size with h | h
  · exact h
  · rw [Array.getElem?_eq_none h] at hh; cases hh

theorem map_alloc {K : Type} [DecidableEq K] {w : World} {M n : Nat} {kf : K → Value} {V : K → Prop} {f : K → Bool} (h : MapHas w M kf V n f) (o : Obj) : MapHas (w.alloc o) M kf V n f :=
  h.of_block (Below.heap_alloc _ _ _ (map_lt h))

theorem cell_lt {w : World} {a : Addr} {v : Value} (h : w.cell? a = some v) : a.block < w.heap.size := by
  rcases Nat.lt_or_ge a.block w.heap.size with h' | h'
  · exact h'
  · simp [World.cell?, Array.getElem?_eq_none h'] at h

def anyP (f : Nat × Int → Bool) (s : Nat) (ps : List Int) : Bool := ps.any fun p => f (s, p)

theorem anyP_snoc (f : Nat × Int → Bool) (s : Nat) (ps : List Int) (k : Nat) (h : k < ps.length) : anyP f s (ps.take (k + 1)) = (anyP f s (ps.take k) || f (s, ps[k]?.getD 0)) := by
  unfold anyP
  rw [List.take_succ_eq_append_getElem h, List.any_append, List.any_cons, List.any_nil, Bool.or_false, List.getElem?_eq_getElem h]
  rfl

theorem anyP_hit (f : Nat × Int → Bool) (s : Nat) (ps : List Int) (k : Nat) (h : k < ps.length) (hf : f (s, ps[k]?.getD 0) = true) : anyP f s ps = true := by
  unfold anyP
  rw [List.any_eq_true]
  exact ⟨ps[k], List.getElem_mem h, by simpa [h] using hf⟩

theorem anyP_miss (f : Nat × Int → Bool) (s : Nat) (ps : List Int) (k : Nat) (hk : ps.length ≤ k) (h : anyP f s (ps.take k) = false) : anyP f s ps = false := by
  rwa [List.take_of_length_le hk] at h

theorem ret_bool {a b : Bool} (h : a = b) : Ending.returned (.bool a) = .returned (.bool b) := by rw [h]

/-- picks, where a value is direct. -/
theorem picks_direct (I fnv : Value) (pa : Option Addr) (pl pc : Nat) (s1 s2 : Value) (w : World) :
    Calls Yba.prog 7 #[I, fnv, .agg #[.bool true, .slice pa pl pc, s1, s2]] w fun e w' => e = .returned (.bool true) ∧ Below w.heap.size w w' := by
  go_enter Yba.func7, Yba.ntmps7
  go_wp2
  go_ret
  exact ⟨rfl, (Below.refl _ _).alloc (Nat.le_refl _) _⟩

/-- picks, where no value is direct and fn is nil. -/
theorem picks_nil (I : Value) (pa : Option Addr) (pl pc : Nat) (ps : List Int) (s1 s2 : Value) (w : World) (hp : IsInts .i64 w pa pl ps) :
    Calls Yba.prog 7 #[I, .pointer none, .agg #[.bool false, .slice pa pl pc, s1, s2]] w fun e w' => e = .returned (.bool false) ∧ Below w.heap.size w w' := by
  obtain ⟨hlen, hmax, hcell, _⟩ := hp
  unfold maxLen at hmax
  go_enter Yba.func7, Yba.ntmps7
  go_wp2
  go_loop [14] (fun i => ∃ k : Nat, k ≤ pl ∧ i = .int .i64 k) (fun i => pl - (intOf i).toNat)
  case atStart => exact ⟨0, Nat.zero_le _, rfl⟩
  case round =>
    obtain ⟨k, hk, rfl⟩ := hrel
    by_cases hlt : k < pl
    · obtain ⟨b, off, rfl, hb, hc⟩ := hcell (by omega)
      have hck := hc k hlt
      clear hcell hc
      go_wp2
      go_round
      case rel => exact ⟨k + 1, by omega, by go_num⟩
      case measure => simp [intOf]; omega
    · go_wp2
      go_ret
      exact ⟨rfl, (Below.refl _ _).alloc (Nat.le_refl _) _⟩

/-- picks, where no value is direct and fn is the s-th function. -/
theorem picks_some (I M B n s : Nat) (hs : s < 3) (pa : Option Addr) (pl pc : Nat) (ps : List Int) (s1 s2 : Value) (w : World) (f : Nat × Int → Bool) (hp : IsInts .i64 w pa pl ps)
    (hI : w.cell? ⟨I, 0, none⟩ = some (.map (some M))) (hM : MapHas w M (fkey B) fV n f) (h3 : Three w B) :
    Calls Yba.prog 7 #[.pointer (some ⟨I, 0, none⟩), .pointer (some ⟨B + s, 0, none⟩), .agg #[.bool false, .slice pa pl pc, s1, s2]] w fun e w' => e = .returned (.bool (anyP f s ps)) ∧ Below w.heap.size w w' := by
  obtain ⟨hlen, hmax, hcell, _⟩ := hp
  unfold maxLen at hmax
  have hrun : ∀ (o : Obj) (p : Int), (Instr.lookup 31 (.map (some M)) (.agg #[.pointer (some ⟨B + s, 0, none⟩), .int .i64 p]) false).run Yba.prog (w.alloc o) = .ok (.bool (f (s, p))) (w.alloc o) := fun o p =>
    (map_alloc hM o).run_lookup (k := (s, p)) (fkey_ok (three_alloc h3 o)) Yba.underlying31 (zero4 _) hs
  clear hM h3
  have hIl : I < w.heap.size := cell_lt hI
  go_enter Yba.func7, Yba.ntmps7
  go_wp2
  go_loop [14] (fun i => ∃ k : Nat, k ≤ pl ∧ i = .int .i64 k ∧ anyP f s (ps.take k) = false) (fun i => pl - (intOf i).toNat)
  case atStart => exact ⟨0, Nat.zero_le _, rfl, rfl⟩
  case round =>
    obtain ⟨k, hk, rfl, hany⟩ := hrel
    by_cases hlt : k < pl
    · obtain ⟨b, off, rfl, hb, hc⟩ := hcell (by omega)
      have hck := hc k hlt
      clear hcell hc
      have HA : Hid (anyP f s (ps.take k) = false) := hany
      clear hany
      have HS : Hid (anyP f s (ps.take (k + 1)) = (anyP f s (ps.take k) || f (s, ps[k]?.getD 0))) := anyP_snoc f s ps k (by omega)
      have HT : Hid (f (s, ps[k]?.getD 0) = true → anyP f s ps = true) := anyP_hit f s ps k (by omega)
      generalize ps[k]?.getD 0 = p at *
      cases hf : f (s, p)
      · have HF : Hid (anyP f s (ps.take (k + 1)) = false) := by
          show _ = _
          rw [HS.out, HA.out, hf]; rfl
        go_wp2
        go_round
        case rel => exact ⟨k + 1, by omega, by go_num, HF.out⟩
        case measure => simp [intOf]; omega
      · have HF : Hid (anyP f s ps = true) := HT.out hf
        go_wp2
        go_ret
        exact ⟨ret_bool HF.out.symm, (Below.refl _ _).alloc (Nat.le_refl _) _⟩
    · have HF : Hid (anyP f s ps = false) := anyP_miss f s ps k (by omega) hany
      clear hany
      go_wp2
      go_ret
      exact ⟨ret_bool HF.out.symm, (Below.refl _ _).alloc (Nat.le_refl _) _⟩
end Go.Proofs.Ybulkbini
