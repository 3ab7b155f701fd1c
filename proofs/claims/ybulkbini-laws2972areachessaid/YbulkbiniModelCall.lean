/-
  'zzs2972amodel' BY ITS CONTRACT.
-/
import Derived.Test.YbulkbiniPicksCall
namespace Go.Proofs.Ybulkbini
open Go Go.RowKit

/-- 'entries' as it is read: where it has an element it leads to a row of cells. -/
def IsEnts (w : World) (a : Option Addr) (len : Nat) (E : List (Int × Int × Bool)) : Prop :=
  E.length = len ∧ len ≤ maxLen ∧ (0 < len → ∃ b off, a = some ⟨b, off, none⟩ ∧ b < w.heap.size ∧ ∀ i e, E[i]? = some e →
    w.cell? ⟨b, off + i * 3, none⟩ = some (.int .u8 e.1) ∧ w.cell? ⟨b, off + i * 3 + 1, none⟩ = some (.int .i64 e.2.1) ∧ w.cell? ⟨b, off + i * 3 + 2, none⟩ = some (.bool e.2.2)) ∧
  ∀ e ∈ E, 0 ≤ e.1 ∧ e.1 ≤ 255

theorem IsEnts.below {w w' : World} {a : Option Addr} {len : Nat} {E : List (Int × Int × Bool)} (h : IsEnts w a len E) {B : Nat} (hb : Below B w w') (hB : w.heap.size ≤ B) : IsEnts w' a len E := by
  obtain ⟨h1, h2, h3, h4⟩ := h
  refine ⟨h1, h2, fun hl => ?_, h4⟩
  obtain ⟨b, off, e, hbl, hc⟩ := h3 hl
  refine ⟨b, off, e, Nat.lt_of_lt_of_le hbl hb.size, fun i e he => ?_⟩
  have hlt : b < B := Nat.lt_of_lt_of_le hbl hB
  rw [hb.cell (p := ⟨b, _, none⟩) hlt, hb.cell (p := ⟨b, _, none⟩) hlt, hb.cell (p := ⟨b, _, none⟩) hlt]
  exact hc i e he

def lastV (E : List (Int × Int × Bool)) (k : Nat × Int) : Bool := E.foldl (fun v e => if e.1 % 3 = (k.1 : Int) ∧ e.2.1 = k.2 then e.2.2 else v) false

theorem lastV_snoc (E : List (Int × Int × Bool)) (n : Nat) (e : Int × Int × Bool) (h : E[n]? = some e) (k : Nat × Int) : lastV (E.take (n + 1)) k = if e.1 % 3 = (k.1 : Int) ∧ e.2.1 = k.2 then e.2.2 else lastV (E.take n) k := by
  have hn : n < E.length := by
    rcases Nat.lt_or_ge n E.length with h' | h'
    · exact h'
    · rw [List.getElem?_eq_none h'] at h; cases h
  have he : E[n] = e := by rw [List.getElem?_eq_getElem hn] at h; simpa using h
  unfold lastV
  rw [List.take_succ_eq_append_getElem hn, List.foldl_append, List.foldl_cons, List.foldl_nil, he]

theorem bcell {B : Nat} {W w1 : World} (hb : Below B W w1) : (∀ b o, b < B → w1.cell? ⟨b, o, none⟩ = W.cell? ⟨b, o, none⟩) ∧ (∀ b o, b < B → w1.frozen? ⟨b, o, none⟩ = W.frozen? ⟨b, o, none⟩) :=
  ⟨fun b o h => hb.cell (p := ⟨b, o, none⟩) h, fun b o h => hb.frozen (p := ⟨b, o, none⟩) h⟩

theorem three_lt {w : World} {B : Nat} (h : Three w B) : B + 2 < w.heap.size := by
  obtain ⟨cs, t, hh⟩ := h 2 (by omega)
  rcases Nat.lt_or_ge (B + 2) w.heap.size with h | h
  · exact h
  · rw [Array.getElem?_eq_none h] at hh; cases hh

theorem three_below {w w' : World} {B C : Nat} (h : Three w B) (hb : Below C w w') (hC : w.heap.size ≤ C) : Three w' B :=
  h.of_block fun j hj => hb.block (B + j) (by have := three_lt h; omega)

theorem eql24 {w : World} {B j s : Nat} (h : Three w B) (hj : j < 3) (hs : s < 3) : (binOp .eql 24 (.pointer (some ⟨B + j, 0, none⟩)) (.pointer (some ⟨B + s, 0, none⟩))).run Yba.prog w = .ok (.bool (decide (j = s))) w := by
  obtain ⟨ti, hti, hsz⟩ := some_of_map i28
  have := ptr_eq h Yba.underlying24 hti (by rw [hsz]; decide) 9999 hj hs
  simp only [binOp]
  simp [Op.equal, Op.maxDepth, this]

theorem model_direct (cs : Array Value) (ents fnv ps : Value) (w : World) :
    Calls Yba.prog 8 #[.agg cs, ents, fnv, .bool true, ps] w fun e w' => e = .returned (.bool true) ∧ Below w.heap.size w w' := by
  go_enter Yba.func8, Yba.ntmps8
  go_wp2
  go_ret
  exact ⟨rfl, (Below.refl _ _).alloc (Nat.le_refl _) _⟩

theorem model_nil (cs : Array Value) (ents ps : Value) (w : World) :
    Calls Yba.prog 8 #[.agg cs, ents, .pointer none, .bool false, ps] w fun e w' => e = .returned (.bool false) ∧ Below w.heap.size w w' := by
  go_enter Yba.func8, Yba.ntmps8
  go_wp2
  go_ret
  exact ⟨rfl, (Below.refl _ _).alloc (Nat.le_refl _) _⟩

set_option maxHeartbeats 1000000 in
theorem model_some (B s : Nat) (hs : s < 3) (ea : Option Addr) (el ec : Nat) (E : List (Int × Int × Bool)) (pa : Option Addr) (pl pc : Nat) (ps : List Int) (w : World) (he : IsEnts w ea el E) (hp : IsInts .i64 w pa pl ps) (h3 : Three w B) :
    Calls Yba.prog 8 #[.agg #[.pointer (some ⟨B, 0, none⟩), .pointer (some ⟨B + 1, 0, none⟩), .pointer (some ⟨B + 2, 0, none⟩)], .slice ea el ec, .pointer (some ⟨B + s, 0, none⟩), .bool false, .slice pa pl pc] w
      fun e w' => e = .returned (.bool (anyP (lastV E) s ps)) ∧ Below w.heap.size w w' := by
  have hb0 : Below w.heap.size w (w.alloc (Obj.cells #[.pointer (some ⟨B, 0, none⟩), .pointer (some ⟨B + 1, 0, none⟩), .pointer (some ⟨B + 2, 0, none⟩)] 29)) := (Below.refl _ _).alloc (Nat.le_refl _) _
  have hfn : ∀ j, j < 3 → (w.alloc (Obj.cells #[.pointer (some ⟨B, 0, none⟩), .pointer (some ⟨B + 1, 0, none⟩), .pointer (some ⟨B + 2, 0, none⟩)] 29)).cell? ⟨w.heap.size, j, none⟩ = some (.pointer (some ⟨B + j, 0, none⟩)) := by
    intro j hj
    match j, hj with
    | 0, _ => simp [go_sem]
    | 1, _ => simp [go_sem]
    | 2, _ => simp [go_sem]
  have hsz : (w.alloc (Obj.cells #[.pointer (some ⟨B, 0, none⟩), .pointer (some ⟨B + 1, 0, none⟩), .pointer (some ⟨B + 2, 0, none⟩)] 29)).heap.size = w.heap.size + 1 := by simp
  have hp1 := hp.below hb0 (Nat.le_refl _)
  have he1 := he.below hb0 (Nat.le_refl _)
  have h31 := three_below h3 hb0 (Nat.le_refl _)
  clear hp he h3
  go_enter Yba.func8, Yba.ntmps8
  go_wp2
  generalize w.alloc (Obj.cells #[.pointer (some ⟨B, 0, none⟩), .pointer (some ⟨B + 1, 0, none⟩), .pointer (some ⟨B + 2, 0, none⟩)] 29) = W at *
  obtain ⟨hlen, hmax, hcell, _⟩ := hp1
  obtain ⟨helen, hemax, hecell, hef⟩ := he1
  unfold maxLen at hmax hemax
  have HZ : Hid (W.heap.size = w.heap.size + 1) := hsz
  have hwW : w.heap.size < W.heap.size := by omega
  clear hsz
  go_loopw [21] (fun i wr => ∃ k : Nat, k ≤ pl ∧ i = .int .i64 k ∧ anyP (lastV E) s (ps.take k) = false ∧ Below W.heap.size W wr) (fun i _ => pl - (intOf i).toNat)
  case atStart => exact ⟨0, Nat.zero_le _, rfl, rfl, Below.refl _ _⟩
  case round =>
    obtain ⟨k, hk, rfl, hany, hbr⟩ := hrel
    by_cases hlt : k < pl
    · obtain ⟨b, off, rfl, hb, hc⟩ := hcell (by omega)
      have hck := hc k hlt
      clear hcell hc
      have HA : Hid (anyP (lastV E) s (ps.take k) = false) := hany
      have HS : Hid (anyP (lastV E) s (ps.take (k + 1)) = (anyP (lastV E) s (ps.take k) || lastV E (s, ps[k]?.getD 0))) := anyP_snoc (lastV E) s ps k (by omega)
      have HT : Hid (lastV E (s, ps[k]?.getD 0) = true → anyP (lastV E) s ps = true) := anyP_hit (lastV E) s ps k (by omega)
      clear hany
      generalize ps[k]?.getD 0 = p at *
      obtain ⟨hcb, hfb⟩ := bcell hbr
      have hzb := hbr.size
      go_wp2
      clear hcb hfb
      go_loopw [13, 27] (fun v i wr => ∃ n : Nat, n ≤ el ∧ i = .int .i64 n ∧ v = .bool (lastV (E.take n) (s, p)) ∧ Below W.heap.size W wr) (fun _ i _ => el - (intOf i).toNat)
      case atStart => exact ⟨0, Nat.zero_le _, rfl, rfl, hbr⟩
      case round =>
        obtain ⟨n, hn, rfl, rfl, hbr1⟩ := hrel
        clear hbr hzb
        by_cases hln : n < el
        · obtain ⟨eb, eo, rfl, heb, hec⟩ := hecell (by omega)
          obtain ⟨⟨e1, e2, e3⟩, hE⟩ : ∃ e, E[n]? = some e := ⟨_, List.getElem?_eq_getElem (by omega)⟩
          obtain ⟨hx1, hx2, hx3⟩ := hec n _ hE
          obtain ⟨g1, g2⟩ := hef _ (List.mem_of_getElem? hE)
          have HS1 : Hid (lastV (E.take (n + 1)) (s, p) = if e1 % 3 = (s : Int) ∧ e2 = p then e3 else lastV (E.take n) (s, p)) := lastV_snoc E n _ hE (s, p)
          clear hec hef hecell hE
          simp only at hx1 hx2 hx3 g1 g2
          have hy1 := (hbr1.cell (p := ⟨eb, eo + n * 3, none⟩) heb).trans hx1
          have hy2 := (hbr1.cell (p := ⟨eb, eo + n * 3 + 1, none⟩) heb).trans hx2
          have hy3 := (hbr1.cell (p := ⟨eb, eo + n * 3 + 2, none⟩) heb).trans hx3
          obtain ⟨j, hj3, hj⟩ : ∃ j : Nat, j < 3 ∧ e1 % 3 = (j : Int) := ⟨(e1 % 3).toNat, by omega, by omega⟩
          have hyf := (hbr1.cell (p := ⟨w.heap.size, j, none⟩) hwW).trans (hfn j hj3)
          have heq : ∀ o : Obj, (binOp .eql 24 (.pointer (some ⟨B + j, 0, none⟩)) (.pointer (some ⟨B + s, 0, none⟩))).run Yba.prog (wr.alloc o) = .ok (.bool (decide (j = s))) (wr.alloc o) := fun o => eql24 (three_alloc (three_below h31 hbr1 (Nat.le_refl _)) o) hj3 hs
          have hzb := hbr1.size
          have hwr : w.heap.size < wr.heap.size := by omega
          have hebr : eb < wr.heap.size := by omega
          clear hx1 hx2 hx3 hfn
          by_cases hjs : j = s
          · subst hjs
            simp only [decide_true] at heq
            cases hpp : (e2 == p)
            · have HF : Hid (lastV (E.take (n + 1)) (j, p) = lastV (E.take n) (j, p)) := by
                show _ = _
                rw [HS1.out, if_neg (fun h => by simp [h.2] at hpp)]
              go_wp2
              go_roundw
              case rel => exact ⟨n + 1, by omega, by go_num, by rw [HF.out], hbr1.alloc (by omega) _⟩
              case measure => simp [intOf]; omega
            · have HF : Hid (lastV (E.take (n + 1)) (j, p) = e3) := by
                show _ = _
                rw [HS1.out, if_pos ⟨hj, by simpa using hpp⟩]
              go_wp2
              go_roundw
              case rel => exact ⟨n + 1, by omega, by go_num, by rw [HF.out], hbr1.alloc (by omega) _⟩
              case measure => simp [intOf]; omega
          · rw [decide_eq_false hjs] at heq
            have HF : Hid (lastV (E.take (n + 1)) (s, p) = lastV (E.take n) (s, p)) := by
              show _ = _
              rw [HS1.out, if_neg (fun h => hjs (by have := h.1; omega))]
            go_wp2
            go_roundw
            case rel => exact ⟨n + 1, by omega, by go_num, by rw [HF.out], hbr1.alloc (by omega) _⟩
            case measure => simp [intOf]; omega
        · have HE : Hid (lastV (E.take n) (s, p) = lastV E (s, p)) := by
            show _ = _
            rw [List.take_of_length_le (by omega)]
          rw [HE.out]
          cases hv : lastV E (s, p)
          · have HF : Hid (anyP (lastV E) s (ps.take (k + 1)) = false) := by
              show _ = _
              rw [HS.out, HA.out, hv]; rfl
            go_wp2
            go_roundw
            case rel => exact ⟨k + 1, by omega, by go_num, HF.out, hbr1⟩
            case measure => simp [intOf]; omega
          · have HF : Hid (anyP (lastV E) s ps = true) := HT.out hv
            go_wp2
            go_ret
            exact ⟨ret_bool HF.out.symm, hb0.trans (hbr1.mono (by omega))⟩
    · have HF : Hid (anyP (lastV E) s ps = false) := anyP_miss (lastV E) s ps k (by omega) hany
      clear hany
      go_wp2
      go_ret
      exact ⟨ret_bool HF.out.symm, hb0.trans (hbr.mono (by omega))⟩
end Go.Proofs.Ybulkbini
