/-
  '(*callerInput).reaches' BY ITS CONTRACT; the contracts of picks and of the model at whatever fn.
-/
import Derived.Test.YbulkbiniPicksWalk
namespace Go.Proofs.Ybulkbini
open Go Go.RowKit

/-- fn: nil, or one of the three functions from B on. -/
def IsFn (B : Nat) (v : Value) (fn : Option Nat) : Prop := (v = .pointer none ∧ fn = none) ∨ ∃ s, s < 3 ∧ v = .pointer (some ⟨B + s, 0, none⟩) ∧ fn = some s

def fnAny (f : Nat × Int → Bool) (fn : Option Nat) (ps : List Int) : Bool := match fn with | none => false | some s => anyP f s ps

theorem picks_gen (I M B n : Nat) (v : Value) (fn : Option Nat) (hv : IsFn B v fn) (d : Bool) (pa : Option Addr) (pl pc : Nat) (ps : List Int) (s1 s2 : Value) (w : World) (f : Nat × Int → Bool) (hp : IsInts .i64 w pa pl ps)
    (hI : w.cell? ⟨I, 0, none⟩ = some (.map (some M))) (hM : MapHas w M (fkey B) fV n f) (h3 : Three w B) :
    Calls Yba.prog 7 #[.pointer (some ⟨I, 0, none⟩), v, .agg #[.bool d, .slice pa pl pc, s1, s2]] w fun e w' => e = .returned (.bool (d || fnAny f fn ps)) ∧ Below w.heap.size w w' := by
  rcases hv with ⟨rfl, rfl⟩ | ⟨s, hs, rfl, rfl⟩
  · simpa [fnAny] using picks_none _ d pa pl pc ps s1 s2 w hp
  · exact picks_fn I M B n s hs d pa pl pc ps s1 s2 w f hp hI hM h3

theorem model_gen (B : Nat) (v : Value) (fn : Option Nat) (hv : IsFn B v fn) (d : Bool) (ea : Option Addr) (el ec : Nat) (E : List (Int × Int × Bool)) (pa : Option Addr) (pl pc : Nat) (ps : List Int) (w : World) (he : IsEnts w ea el E) (hp : IsInts .i64 w pa pl ps) (h3 : Three w B) :
    Calls Yba.prog 8 #[.agg #[.pointer (some ⟨B, 0, none⟩), .pointer (some ⟨B + 1, 0, none⟩), .pointer (some ⟨B + 2, 0, none⟩)], .slice ea el ec, v, .bool d, .slice pa pl pc] w
      fun e w' => e = .returned (.bool (d || fnAny (lastV E) fn ps)) ∧ Below w.heap.size w w' := by
  rcases hv with ⟨rfl, rfl⟩ | ⟨s, hs, rfl, rfl⟩
  · simpa [fnAny] using model_none _ d _ _ w
  · exact model_fn B s hs d ea el ec E pa pl pc ps w he hp h3

/-- A slice of pointers to the three declarations from V on. -/
def IsPtrs (w : World) (a : Option Addr) (len V : Nat) (js : List Nat) : Prop :=
  js.length = len ∧ len ≤ maxLen ∧ (0 < len → ∃ b off, a = some ⟨b, off, none⟩ ∧ b < w.heap.size ∧ ∀ i j, js[i]? = some j → w.cell? ⟨b, off + i, none⟩ = some (.pointer (some ⟨V + j, 0, none⟩))) ∧ ∀ j ∈ js, j < 3

theorem IsPtrs.below {w w' : World} {a : Option Addr} {len V : Nat} {js : List Nat} (h : IsPtrs w a len V js) {B : Nat} (hb : Below B w w') (hB : w.heap.size ≤ B) : IsPtrs w' a len V js := by
  obtain ⟨h1, h2, h3, h4⟩ := h
  refine ⟨h1, h2, fun hl => ?_, h4⟩
  obtain ⟨b, off, e, hbl, hc⟩ := h3 hl
  exact ⟨b, off, e, Nat.lt_of_lt_of_le hbl hb.size, fun i j hj => (hb.cell (p := ⟨b, off + i, none⟩) (Nat.lt_of_lt_of_le hbl hB)).trans (hc i j hj)⟩

theorem any_snoc {α : Type} (g : α → Bool) (l : List α) (k : Nat) (j : α) (h : l[k]? = some j) : (l.take (k + 1)).any g = ((l.take k).any g || g j) := by
  have hn : k < l.length := by
    rcases Nat.lt_or_ge k l.length with h' | h'
    · exact h'
    · rw [List.getElem?_eq_none h'] at h; cases h
  have he : l[k] = j := by rw [List.getElem?_eq_getElem hn] at h; simpa using h
  rw [List.take_succ_eq_append_getElem hn, List.any_append, List.any_cons, List.any_nil, Bool.or_false, he]

theorem any_hit {α : Type} (g : α → Bool) (l : List α) (k : Nat) (j : α) (h : l[k]? = some j) (hg : g j = true) : l.any g = true := by
  rw [List.any_eq_true]
  exact ⟨j, List.mem_of_getElem? h, hg⟩

set_option maxHeartbeats 1000000 in
theorem reaches_gen (I M M2 B V n n2 : Nat) (v : Value) (fn : Option Nat) (hv : IsFn B v fn) (d : Bool) (pa : Option Addr) (pl pc : Nat) (ps : List Int) (sa : Option Addr) (sl sc : Nat) (js : List Nat) (s2 : Value) (w : World) (f : Nat × Int → Bool) (g : Nat → Bool)
    (hp : IsInts .i64 w pa pl ps) (hI : w.cell? ⟨I, 0, none⟩ = some (.map (some M))) (hM : MapHas w M (fkey B) fV n f) (h3 : Three w B)
    (hst : IsPtrs w sa sl V js) (hI2 : w.cell? ⟨I, 1, none⟩ = some (.map (some M2))) (hM2 : MapHas w M2 (vkey V) vV n2 g) (h3v : Three w V) :
    Calls Yba.prog 9 #[.pointer (some ⟨I, 0, none⟩), v, .agg #[.bool d, .slice pa pl pc, .slice sa sl sc, s2]] w fun e w' => e = .returned (.bool ((d || fnAny f fn ps) || js.any g)) ∧ Below w.heap.size w w' := by
  have hb0 : Below w.heap.size w (w.alloc (Obj.cells #[.bool d, .slice pa pl pc, .slice sa sl sc, s2] 43)) := (Below.refl _ _).alloc (Nat.le_refl _) _
  have hc0 : (w.alloc (Obj.cells #[.bool d, .slice pa pl pc, .slice sa sl sc, s2] 43)).cell? ⟨w.heap.size, 2, none⟩ = some (.slice sa sl sc) := by simp [go_sem]
  have hlt0 : w.heap.size < (w.alloc (Obj.cells #[.bool d, .slice pa pl pc, .slice sa sl sc, s2] 43)).heap.size := by simp
  have hp1 := hp.below hb0 (Nat.le_refl _)
  have hst1 := hst.below hb0 (Nat.le_refl _)
  have hI1 := (hb0.cell (p := ⟨I, 0, none⟩) (cell_lt hI)).trans hI
  have hI21 := (hb0.cell (p := ⟨I, 1, none⟩) (cell_lt hI2)).trans hI2
  have hM1 : MapHas _ M (fkey B) fV n f := map_alloc hM (Obj.cells #[.bool d, .slice pa pl pc, .slice sa sl sc, s2] 43)
  have hM21 : MapHas _ M2 (vkey V) vV n2 g := map_alloc hM2 (Obj.cells #[.bool d, .slice pa pl pc, .slice sa sl sc, s2] 43)
  have h31 : Three _ B := three_alloc h3 (Obj.cells #[.bool d, .slice pa pl pc, .slice sa sl sc, s2] 43)
  have h3v1 : Three _ V := three_alloc h3v (Obj.cells #[.bool d, .slice pa pl pc, .slice sa sl sc, s2] 43)
  clear hp hst hI hI2 hM hM2 h3 h3v
  go_enter Yba.func9, Yba.ntmps9
  go_wp2_with fail
  generalize w.alloc (Obj.cells #[.bool d, .slice pa pl pc, .slice sa sl sc, s2] 43) = W at *
  refine (picks_gen I M B n v fn hv d pa pl pc ps _ _ W f hp1 hI1 hM1 h31).mono ?_
  rintro e w1 ⟨rfl, hb1⟩
  have hst2 := hst1.below hb1 (Nat.le_refl _)
  have hI22 := (hb1.cell (p := ⟨I, 1, none⟩) (cell_lt hI21)).trans hI21
  have hM22 : MapHas w1 M2 (vkey V) vV n2 g := hM21.of_block (hb1.block _ (map_lt hM21))
  have h3v2 := three_below h3v1 hb1 (Nat.le_refl _)
  have hc1 := (hb1.cell (p := ⟨w.heap.size, 2, none⟩) hlt0).trans hc0
  clear hst1 hI21 hM21 h3v1 hp1 hI1 hM1 h31 hc0
  obtain ⟨q, hq⟩ : ∃ q, (d || fnAny f fn ps) = q := ⟨_, rfl⟩
  rw [hq]
  have HQ : Hid ((d || fnAny f fn ps) = q) := hq
  clear hq
  cases q
  · have hrun : ∀ j, j < 3 → (Instr.lookup 32 (.map (some M2)) (.pointer (some ⟨V + j, 0, none⟩)) false).run Yba.prog w1 = .ok (.bool (g j)) w1 := fun j hj =>
      hM22.run_lookup (k := j) (vkey_ok h3v2) Yba.underlying32 (zero4 _) hj
    clear hM22 h3v2
    obtain ⟨hjl, hjm, hjc, hj3⟩ := hst2
    unfold maxLen at hjm
    go_wp2
    go_loop [16] (fun i => ∃ k : Nat, k ≤ sl ∧ i = .int .i64 k ∧ (js.take k).any g = false) (fun i => sl - (intOf i).toNat)
    case atStart => exact ⟨0, Nat.zero_le _, rfl, rfl⟩
    case round =>
      obtain ⟨k, hk, rfl, hany⟩ := hrel
      have HA : Hid ((js.take k).any g = false) := hany
      clear hany
      by_cases hlt : k < sl
      · obtain ⟨b, off, rfl, hb, hc⟩ := hjc (by omega)
        obtain ⟨j, hj⟩ : ∃ j, js[k]? = some j := ⟨_, List.getElem?_eq_getElem (by omega)⟩
        have hck := hc k j hj
        have hjlt := hj3 j (List.mem_of_getElem? hj)
        have HS : Hid ((js.take (k + 1)).any g = ((js.take k).any g || g j)) := any_snoc g js k j hj
        have HT : Hid (g j = true → js.any g = true) := any_hit g js k j hj
        have hrj := hrun j hjlt
        clear hjc hc hrun hj3 hj
        cases hg : g j
        · have HF : Hid ((js.take (k + 1)).any g = false) := by
            show _ = _
            rw [HS.out, HA.out, hg]; rfl
          go_wp2
          go_round
          case rel => exact ⟨k + 1, by omega, by go_num, HF.out⟩
          case measure => simp [intOf]; omega
        · have HF : Hid (js.any g = true) := HT.out hg
          go_wp2
          go_ret
          exact ⟨ret_bool (by rw [HQ.out, HF.out]; rfl), hb0.trans (hb1.mono (by omega))⟩
      · have HF : Hid (js.any g = false) := by
          have := HA.out
          rwa [List.take_of_length_le (by omega)] at this
        go_wp2
        go_ret
        exact ⟨ret_bool (by rw [HQ.out, HF.out]; rfl), hb0.trans (hb1.mono (by omega))⟩
  · go_wp2
    go_ret
    exact ⟨ret_bool (by rw [HQ.out]; rfl), hb0.trans (hb1.mono (by omega))⟩
end Go.Proofs.Ybulkbini
