/-
  THE WALK OF 'LawS2972APicks'.
-/
import Derived.Test.YbulkbiniModelCall
import Derived.Deep.RegionHeld3
import Derived.Maps.OwnSet
namespace Go.Proofs.Ybulkbini
open Go Go.RowKit

theorem picks_walk_long (ea : Option Addr) (el ec : Nat) (sel : Int) (d : Bool) (pa : Option Addr) (pl pc : Nat) (w : World) (h : 1024 < el ∨ 1024 < pl) :
    Calls Yba.prog 3 #[.slice ea el ec, .int .u8 sel, .bool d, .slice pa pl pc] w fun e w' => e = .returned (.bool true) ∧ Below w.heap.size w w' := by
  by_cases h1 : 1024 < el
  · go_enter Yba.func3, Yba.ntmps3
    go_wp2
    go_ret
    exact ⟨rfl, Below.refl _ _⟩
  · have h2 : 1024 < pl := by omega
    go_enter Yba.func3, Yba.ntmps3
    go_wp2
    go_ret
    exact ⟨rfl, Below.refl _ _⟩

theorem picks_fn (I M B n s : Nat) (hs : s < 3) (d : Bool) (pa : Option Addr) (pl pc : Nat) (ps : List Int) (s1 s2 : Value) (w : World) (f : Nat × Int → Bool) (hp : IsInts .i64 w pa pl ps)
    (hI : w.cell? ⟨I, 0, none⟩ = some (.map (some M))) (hM : MapHas w M (fkey B) fV n f) (h3 : Three w B) :
    Calls Yba.prog 7 #[.pointer (some ⟨I, 0, none⟩), .pointer (some ⟨B + s, 0, none⟩), .agg #[.bool d, .slice pa pl pc, s1, s2]] w fun e w' => e = .returned (.bool (d || anyP f s ps)) ∧ Below w.heap.size w w' := by
  cases d
  · simpa using picks_some I M B n s hs pa pl pc ps s1 s2 w f hp hI hM h3
  · simpa using picks_direct _ _ pa pl pc s1 s2 w
theorem picks_none (I : Value) (d : Bool) (pa : Option Addr) (pl pc : Nat) (ps : List Int) (s1 s2 : Value) (w : World) (hp : IsInts .i64 w pa pl ps) :
    Calls Yba.prog 7 #[I, .pointer none, .agg #[.bool d, .slice pa pl pc, s1, s2]] w fun e w' => e = .returned (.bool d) ∧ Below w.heap.size w w' := by
  cases d
  · exact picks_nil I pa pl pc ps s1 s2 w hp
  · exact picks_direct _ _ pa pl pc s1 s2 w
theorem model_fn (B s : Nat) (hs : s < 3) (d : Bool) (ea : Option Addr) (el ec : Nat) (E : List (Int × Int × Bool)) (pa : Option Addr) (pl pc : Nat) (ps : List Int) (w : World) (he : IsEnts w ea el E) (hp : IsInts .i64 w pa pl ps) (h3 : Three w B) :
    Calls Yba.prog 8 #[.agg #[.pointer (some ⟨B, 0, none⟩), .pointer (some ⟨B + 1, 0, none⟩), .pointer (some ⟨B + 2, 0, none⟩)], .slice ea el ec, .pointer (some ⟨B + s, 0, none⟩), .bool d, .slice pa pl pc] w
      fun e w' => e = .returned (.bool (d || anyP (lastV E) s ps)) ∧ Below w.heap.size w w' := by
  cases d
  · simpa using model_some B s hs ea el ec E pa pl pc ps w he hp h3
  · simpa using model_direct _ _ _ _ w
theorem model_none (cs : Array Value) (d : Bool) (ents ps : Value) (w : World) :
    Calls Yba.prog 8 #[.agg cs, ents, .pointer none, .bool d, ps] w fun e w' => e = .returned (.bool d) ∧ Below w.heap.size w w' := by
  cases d
  · exact model_nil cs ents ps w
  · exact model_direct _ _ _ _ w

theorem run_len_map {w : World} {M n : Nat} {kf : Nat × Int → Value} {V : Nat × Int → Prop} {f : Nat × Int → Bool} (h : MapHas w M kf V n f) (ty : TypeId) : (Builtin.len_ #[31] ty #[.map (some M)]).run Yba.prog w = .ok (.int .i64 n) w := by
  obtain ⟨L, c, hb, _, hl, _⟩ := h
  simp [Builtin.len_, run_underlying Yba.underlying31, MapKept.run_getObj_map hb, goInt, Result.andThen, hl]

theorem wpList_len_map {ops : Array Oper} {rest : List Oper} {o : Oper} {a : Act} {Q : Exit → Act → World → Prop} {w : World} (hw : Region.wanted o (yielded ops a.tmps) = true) (m : Operand)
    (hop : o.op = Op.call { callee := Callee.builtin Builtin.len, args := #[m], argTypes := #[31] }) (M n : Nat) (hm : a.eval m = .map (some M))
    (hrun : ∀ ty, (Builtin.len_ #[31] ty #[.map (some M)]).run Yba.prog w = .ok (.int .i64 n) w)
    (hK : wpList Yba.prog ops Q rest (a.put o.dst (.int .i64 n)) w) : wpList Yba.prog ops Q (o :: rest) a w := by
  refine wpList_step fun K' hK' => ?_
  rw [if_pos hw]
  unfold Oper.wp
  simp [execOp, hop, resolve, invoke, builtin, hm, hrun, Result.andThen]
  exact hK' _ _ hK

theorem wrap_small {a : Int} (h0 : 0 ≤ a) (h1 : a ≤ 255) : IntKind.i64.wrap a = a := by
  rw [IntKind.wrap_i64]
  omega

/-- What stands in the call's own blocks: three functions from B on, their pointers in the array A, the map M, the struct I that leads to it. -/
structure FInv (w wr : World) (B A M I n : Nat) (f : Nat × Int → Bool) : Prop where
  below : Below w.heap.size w wr
  three : Three wr B
  arr : ∀ j, j < 3 → wr.cell? ⟨A, j, none⟩ = some (.pointer (some ⟨B + j, 0, none⟩))
  inp : wr.cell? ⟨I, 0, none⟩ = some (.map (some M))
  map : MapHas wr M (fkey B) fV n f

theorem FInv.alloc {w wr : World} {B A M I n : Nat} {f : Nat × Int → Bool} (h : FInv w wr B A M I n f) (o : Obj) : FInv w (wr.alloc o) B A M I n f where
  below := h.below.alloc h.below.size _
  three := three_alloc h.three o
  arr := fun j hj => by rw [← h.arr j hj]; exact World.cell?_of_block (Below.heap_alloc _ _ _ (cell_lt (h.arr j hj)))
  inp := by rw [← h.inp]; exact World.cell?_of_block (Below.heap_alloc _ _ _ (cell_lt h.inp))
  map := map_alloc h.map o

theorem FInv.drew {w wr : World} {B A M I n : Nat} {f : Nat × Int → Bool} (h : FInv w wr B A M I n f) : FInv w wr.drew B A M I n f :=
  ⟨h.below.drew, h.three.of_block fun _ _ => rfl, h.arr, h.inp, h.map.of_block rfl⟩

theorem FInv.below' {w wr w' : World} {B A M I n : Nat} {f : Nat × Int → Bool} (h : FInv w wr B A M I n f) (hb : Below wr.heap.size wr w') : FInv w w' B A M I n f where
  below := h.below.trans (hb.mono h.below.size)
  three := three_below h.three hb (Nat.le_refl _)
  arr := fun j hj => by rw [← h.arr j hj]; exact hb.cell (cell_lt (h.arr j hj))
  inp := by rw [← h.inp]; exact hb.cell (cell_lt h.inp)
  map := h.map.of_block (hb.block _ (map_lt h.map))

theorem heap_set_other (w : World) (M : Nat) (o : Obj) (b : Nat) (h : b ≠ M) : ({ w with heap := w.heap.setIfInBounds M o } : World).heap[b]? = w.heap[b]? := by
  show (w.heap.setIfInBounds M o)[b]? = _
  rw [Array.getElem?_setIfInBounds_ne (fun e => h e.symm)]

/-- The store into the map: SOME world; the map holds the new element; all else stands. -/
theorem FInv.update {w wr : World} {B A M I n : Nat} {f : Nat × Int → Bool} (h : FInv w wr B A M I n f) (hwM : w.heap.size ≤ M) (hBM : B + 2 < M) (hAM : A ≠ M) (hIM : I ≠ M) {j : Nat} (hj : j < 3) (x : Int) (v : Bool) :
    ∃ w' n', (Instr.mapUpdate 31 (.map (some M)) (.agg #[.pointer (some ⟨B + j, 0, none⟩), .int .i64 x]) (.bool v)).run Yba.prog wr = .ok () w' ∧
      FInv w w' B A M I n' (fun k => if k = (j, x) then v else f k) ∧ (∀ b, b ≠ M → w'.heap[b]? = wr.heap[b]?) ∧ w'.heap.size = wr.heap.size := by
  obtain ⟨o, n', hrun, hm⟩ := h.map.run_update (k := (j, x)) (fkey_ok h.three) Yba.underlying31 hj v
  have hoth := heap_set_other wr M o
  refine ⟨_, n', hrun, ⟨⟨h.below.os, h.below.tape, h.below.output, ?_, fun k hk => ?_⟩, h.three.of_block fun j hj => ?_, fun j hj => ?_, ?_, hm⟩, hoth, by simp⟩
  · simpa using h.below.size
  · rw [hoth k (by omega)]; exact h.below.block k hk
  · exact hoth _ (by omega)
  · rw [← h.arr j hj]; exact World.cell?_of_block (hoth _ hAM)
  · rw [← h.inp]; exact World.cell?_of_block (hoth _ hIM)

theorem alloc_at (w : World) (o : Obj) (k : Nat) : (w.alloc o).heap[k]? = if k = w.heap.size then some o else w.heap[k]? := by
  show (w.heap.push o)[k]? = _
  rw [Array.getElem?_push]
theorem alloc_size (w : World) (o : Obj) : (w.alloc o).heap.size = w.heap.size + 1 := by simp

theorem start_facts (w : World) : FInv w ((((((w.alloc (Obj.cells #[Value.pointer none, Value.pointer none] 28)).alloc (Obj.cells #[Value.pointer none, Value.pointer none] 28)).alloc (Obj.cells #[Value.pointer none, Value.pointer none] 28)).alloc
          (Obj.cells #[Value.pointer (some { block := w.heap.size, off := 0 }), Value.pointer (some { block := w.heap.size + 1, off := 0 }), Value.pointer (some { block := w.heap.size + 1 + 1, off := 0 })] 29)).alloc
      (Obj.map #[] 0)).alloc (Obj.cells #[Value.map (some (w.heap.size + 1 + 1 + 1 + 1)), Value.map none] 34)) w.heap.size (w.heap.size + 1 + 1 + 1) (w.heap.size + 1 + 1 + 1 + 1) (w.heap.size + 1 + 1 + 1 + 1 + 1) 0 (lastV []) where
  below := ((((((Below.refl _ _).alloc (Nat.le_refl _) _).alloc (by simp) _).alloc (by simp; omega) _).alloc (by simp; omega) _).alloc (by simp; omega) _).alloc (by simp; omega) _
  three := fun j hj => by
    match j, hj with
    | 0, _ => exact ⟨_, _, by simp only [alloc_at, alloc_size]; repeat (first | rw [if_pos True.intro] | rw [if_pos (by omega)] | rw [if_neg (by omega)])⟩
    | 1, _ => exact ⟨_, _, by simp only [alloc_at, alloc_size]; repeat (first | rw [if_pos True.intro] | rw [if_pos (by omega)] | rw [if_neg (by omega)])⟩
    | 2, _ => exact ⟨_, _, by simp only [alloc_at, alloc_size]; repeat (first | rw [if_pos True.intro] | rw [if_pos (by omega)] | rw [if_neg (by omega)])⟩
  arr := fun j hj => by
    match j, hj with
    | 0, _ => simp [go_sem]
    | 1, _ => simp [go_sem]
    | 2, _ => simp [go_sem]
  inp := by simp [go_sem]
  map := ⟨[], 0, by simp only [alloc_at, alloc_size]; repeat (first | rw [if_pos (by omega)] | rw [if_neg (by omega)]); rfl, by simp, rfl, fun k => rfl⟩

theorem lastV_step (E : List (Int × Int × Bool)) (n : Nat) (e1 e2 : Int) (e3 : Bool) (h : E[n]? = some (e1, e2, e3)) (j : Nat) (hj : e1 % 3 = (j : Int)) : lastV (E.take (n + 1)) = fun k => if k = (j, e2) then e3 else lastV (E.take n) k := by
  funext k
  rw [lastV_snoc E n _ h k]
  obtain ⟨a, b⟩ := k
  simp only [hj]
  by_cases e : (a, b) = (j, e2)
  · simp only [Prod.mk.injEq] at e
    rw [if_pos ⟨by omega, e.2.symm⟩, if_pos (by rw [e.1, e.2])]
  · rw [if_neg (fun h => e (by rw [h.2, show a = j by have := h.1; omega])), if_neg e]

set_option maxHeartbeats 1000000 in
set_option maxRecDepth 100000 in
theorem picks_walk (ea : Option Addr) (el ec : Nat) (E : List (Int × Int × Bool)) (sel : Int) (d : Bool) (pa : Option Addr) (pl pc : Nat) (ps : List Int) (w : World) (h1 : el ≤ 1024) (h2 : pl ≤ 1024)
    (hs0 : 0 ≤ sel) (hs1 : sel ≤ 255) (he : IsEnts w ea el E) (hp : IsInts .i64 w pa pl ps) :
    Calls Yba.prog 3 #[.slice ea el ec, .int .u8 sel, .bool d, .slice pa pl pc] w fun e w' => e = .returned (.bool true) ∧ Below w.heap.size w w' := by
  have hmm := @run_makeMap Yba.prog
  have hF0 := start_facts w
  go_enter Yba.func3, Yba.ntmps3
  go_wp2
  clear hmm
  generalize (((((w.alloc (Obj.cells #[Value.pointer none, Value.pointer none] 28)).alloc (Obj.cells #[Value.pointer none, Value.pointer none] 28)).alloc (Obj.cells #[Value.pointer none, Value.pointer none] 28)).alloc
          (Obj.cells #[Value.pointer (some { block := w.heap.size, off := 0 }), Value.pointer (some { block := w.heap.size + 1, off := 0 }), Value.pointer (some { block := w.heap.size + 1 + 1, off := 0 })] 29)).alloc
      (Obj.map #[] 0)).alloc (Obj.cells #[Value.map (some (w.heap.size + 1 + 1 + 1 + 1)), Value.map none] 34) = W at *
  generalize hA : w.heap.size + 1 + 1 + 1 = A at *
  generalize hM : A + 1 = M at *
  generalize hI : M + 1 = I at *
  have HA : Hid (w.heap.size + 3 = A ∧ A + 1 = M ∧ M + 1 = I) := ⟨by omega, hM, hI⟩
  clear hA hM hI
  obtain ⟨helen, hemax, hecell, hef⟩ := he
  go_loopw [38] (fun i wr => ∃ k n : Nat, k ≤ el ∧ i = .int .i64 k ∧ FInv w wr w.heap.size A M I n (lastV (E.take k))) (fun i _ => el - (intOf i).toNat)
  case atStart => exact ⟨0, 0, Nat.zero_le _, rfl, hF0⟩
  case round =>
    obtain ⟨k, n, hk, rfl, hF⟩ := hrel
    by_cases hln : k < el
    · obtain ⟨eb, eo, rfl, heb, hec⟩ := hecell (by omega)
      obtain ⟨⟨e1, e2, e3⟩, hE⟩ : ∃ e, E[k]? = some e := ⟨_, List.getElem?_eq_getElem (by omega)⟩
      obtain ⟨hx1, hx2, hx3⟩ := hec k _ hE
      obtain ⟨g1, g2⟩ := hef _ (List.mem_of_getElem? hE)
      simp only at hx1 hx2 hx3 g1 g2
      obtain ⟨j, hj3, hj⟩ : ∃ j : Nat, j < 3 ∧ e1 % 3 = (j : Int) := ⟨(e1 % 3).toNat, by omega, by omega⟩
      have HS : Hid (lastV (E.take (k + 1)) = fun q => if q = (j, e2) then e3 else lastV (E.take k) q) := lastV_step E k e1 e2 e3 hE j hj
      have hy1 := (hF.below.cell (p := ⟨eb, eo + k * 3, none⟩) heb).trans hx1
      have hy2 := (hF.below.cell (p := ⟨eb, eo + k * 3 + 1, none⟩) heb).trans hx2
      have hy3 := (hF.below.cell (p := ⟨eb, eo + k * 3 + 2, none⟩) heb).trans hx3
      clear hec hecell hE hx1 hx2 hx3
      have hF1 := (hF.alloc (.cells #[.int .u8 e1, .int .i64 e2, .bool e3] 36)).drew
      obtain ⟨w3, n', hrun, hF3, hoth, hsz3⟩ := hF1.update (by have := HA.out; omega) (by have := HA.out; omega) (by have := HA.out; omega) (by have := HA.out; omega) hj3 e2 e3
      have hz := hF.below.size
      have hebr : eb < wr.heap.size := by omega
      have hc0 : (wr.alloc (Obj.cells #[.int .u8 e1, .int .i64 e2, .bool e3] 36)).cell? ⟨wr.heap.size, 0, none⟩ = some (.int .u8 e1) := by simp [go_sem]
      have hc1 : (wr.alloc (Obj.cells #[.int .u8 e1, .int .i64 e2, .bool e3] 36)).cell? ⟨wr.heap.size, 1, none⟩ = some (.int .i64 e2) := by simp [go_sem]
      have hc2 : (wr.alloc (Obj.cells #[.int .u8 e1, .int .i64 e2, .bool e3] 36)).cell? ⟨wr.heap.size, 2, none⟩ = some (.bool e3) := by simp [go_sem]
      have hcI := (hF.alloc (.cells #[.int .u8 e1, .int .i64 e2, .bool e3] 36)).inp
      have hcA := (hF.alloc (.cells #[.int .u8 e1, .int .i64 e2, .bool e3] 36)).arr j hj3
      go_wp2
      generalize wr.alloc (Obj.cells #[.int .u8 e1, .int .i64 e2, .bool e3] 36) = W1 at *
      have hMr : wr.heap.size ≠ M := by have := map_lt hF.map; omega
      have hd0 : w3.cell? ⟨wr.heap.size, 0, none⟩ = some (.int .u8 e1) := by rw [← hc0]; exact World.cell?_of_block (hoth _ hMr)
      have hd1 : w3.cell? ⟨wr.heap.size, 1, none⟩ = some (.int .i64 e2) := by rw [← hc1]; exact World.cell?_of_block (hoth _ hMr)
      have hd2 : w3.cell? ⟨wr.heap.size, 2, none⟩ = some (.bool e3) := by rw [← hc2]; exact World.cell?_of_block (hoth _ hMr)
      have hjI : (j : Int) < 3 := by omega
      have hj0 : (0 : Int) ≤ (j : Int) := by omega
      have hw1 := wrap_small g1 g2
      have hw2 : e1.tmod 3 = (j : Int) := by rw [Int.tmod_eq_emod_of_nonneg g1]; exact hj
      have hdI := hF3.inp
      have hdA := hF3.arr j hj3
      clear hF1 hoth hy1 hy2 hy3 hebr hF hF0
      go_region_held3 (fun w' => w'.cell? ⟨wr.heap.size, 0, none⟩ = some (.int .u8 e1) ∧ w'.cell? ⟨wr.heap.size, 1, none⟩ = some (.int .i64 e2) ∧ w'.cell? ⟨wr.heap.size, 2, none⟩ = some (.bool e3) ∧ w'.cell? ⟨I, 0, none⟩ = some (.map (some M)) ∧ w'.cell? ⟨A, j, none⟩ = some (.pointer (some ⟨w.heap.size + j, 0, none⟩))) (go_keep) (fail)
      go_wp2
      go_roundw
      case rel => exact ⟨k + 1, n', by omega, by go_num, HS.out ▸ hF3⟩
      case measure => simp [intOf]; omega
    · have HE : Hid (lastV (E.take k) = lastV E) := by
        show _ = _
        rw [List.take_of_length_le (by omega)]
      rw [HE.out] at hF
      have he1 : IsEnts wr ea el E := IsEnts.below ⟨helen, hemax, hecell, hef⟩ hF.below (Nat.le_refl _)
      have hp1 := hp.below hF.below (Nat.le_refl _)
      clear hecell hef hemax hp hF0
      have hlm := run_len_map hF.map
      have hcI := hF.inp
      by_cases hsel : sel % 4 < 3
      · obtain ⟨s, hs3, hs⟩ : ∃ s : Nat, s < 3 ∧ sel % 4 = (s : Int) := ⟨(sel % 4).toNat, by omega, by omega⟩
        have hcA := hF.arr s hs3
        go_wp2_with (at_len; refine wpList_len_map (by simp [Region.wanted]) _ rfl M n rfl hlm ?_)
        refine (picks_fn I M w.heap.size n s hs3 d pa pl pc ps _ _ wr (lastV E) hp1 hcI hF.map hF.three).mono ?_
        rintro e w2 ⟨rfl, hb2⟩
        have hF2 := hF.below' hb2
        have he2 := he1.below hb2 (Nat.le_refl _)
        have hp2 := hp1.below hb2 (Nat.le_refl _)
        clear hF hcI hlm hcA he1 hp1 hb2
        have hA0 : w2.cell? ⟨A, 0, none⟩ = some (.pointer (some ⟨w.heap.size, 0, none⟩)) := hF2.arr 0 (by omega)
        have hA1 : w2.cell? ⟨A, 1, none⟩ = some (.pointer (some ⟨w.heap.size + 1, 0, none⟩)) := hF2.arr 1 (by omega)
        have hA2 : w2.cell? ⟨A, 2, none⟩ = some (.pointer (some ⟨w.heap.size + 2, 0, none⟩)) := hF2.arr 2 (by omega)
        generalize hgg : (d || anyP (lastV E) s ps) = g
        go_wp2_with fail
        refine (model_fn w.heap.size s hs3 d ea el ec E pa pl pc ps w2 he2 hp2 hF2.three).mono ?_
        rintro e w3 ⟨rfl, hb3⟩
        have hF3 := hF2.below' hb3
        rw [hgg]
        have hlm := run_len_map hF3.map
        have hcI := hF3.inp
        clear hF2 he2 hp2 hA0 hA1 hA2 hb3 hgg
        go_wp2_with (at_len; refine wpList_len_map (by simp [Region.wanted, yielded]) _ rfl M n rfl hlm ?_)
        go_ret
        exact ⟨rfl, hF3.below⟩
      · go_wp2_with (at_len; refine wpList_len_map (by simp [Region.wanted]) _ rfl M n rfl hlm ?_)
        refine (picks_none _ d pa pl pc ps _ _ wr hp1).mono ?_
        rintro e w2 ⟨rfl, hb2⟩
        have hF2 := hF.below' hb2
        clear hF hcI hlm he1 hp1 hb2
        have hA0 : w2.cell? ⟨A, 0, none⟩ = some (.pointer (some ⟨w.heap.size, 0, none⟩)) := hF2.arr 0 (by omega)
        have hA1 : w2.cell? ⟨A, 1, none⟩ = some (.pointer (some ⟨w.heap.size + 1, 0, none⟩)) := hF2.arr 1 (by omega)
        have hA2 : w2.cell? ⟨A, 2, none⟩ = some (.pointer (some ⟨w.heap.size + 2, 0, none⟩)) := hF2.arr 2 (by omega)
        go_wp2_with fail
        refine (model_none _ d _ _ w2).mono ?_
        rintro e w3 ⟨rfl, hb3⟩
        have hF3 := hF2.below' hb3
        have hlm := run_len_map hF3.map
        have hcI := hF3.inp
        clear hF2 hA0 hA1 hA2 hb3
        go_wp2_with (at_len; refine wpList_len_map (by simp [Region.wanted, yielded]) _ rfl M n rfl hlm ?_)
        go_ret
        exact ⟨rfl, hF3.below⟩
end Go.Proofs.Ybulkbini
