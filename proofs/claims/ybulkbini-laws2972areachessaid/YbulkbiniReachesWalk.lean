/-
  THE WALK OF 'LawS2972AReaches'.
-/
import Derived.Test.YbulkbiniReachesCall
import Derived.Deep.DeepCutAuto
import Derived.OpenShut
namespace Go.Proofs.Ybulkbini
open Go Go.RowKit

/-- 'states' as it is read. -/
def IsStates (w : World) (a : Option Addr) (len : Nat) (S : List (Int × Bool)) : Prop :=
  S.length = len ∧ len ≤ maxLen ∧ (0 < len → ∃ b off, a = some ⟨b, off, none⟩ ∧ b < w.heap.size ∧ ∀ i e, S[i]? = some e →
    w.cell? ⟨b, off + i * 2, none⟩ = some (.int .u8 e.1) ∧ w.cell? ⟨b, off + i * 2 + 1, none⟩ = some (.bool e.2)) ∧
  ∀ e ∈ S, 0 ≤ e.1 ∧ e.1 ≤ 255

theorem IsStates.below {w w' : World} {a : Option Addr} {len : Nat} {S : List (Int × Bool)} (h : IsStates w a len S) {B : Nat} (hb : Below B w w') (hB : w.heap.size ≤ B) : IsStates w' a len S := by
  obtain ⟨h1, h2, h3, h4⟩ := h
  refine ⟨h1, h2, fun hl => ?_, h4⟩
  obtain ⟨b, off, e, hbl, hc⟩ := h3 hl
  refine ⟨b, off, e, Nat.lt_of_lt_of_le hbl hb.size, fun i e he => ?_⟩
  have hlt : b < B := Nat.lt_of_lt_of_le hbl hB
  rw [hb.cell (p := ⟨b, _, none⟩) hlt, hb.cell (p := ⟨b, _, none⟩) hlt]
  exact hc i e he

def lastS (S : List (Int × Bool)) (k : Nat) : Bool := S.foldl (fun v e => if e.1 % 3 = (k : Int) then e.2 else v) false

theorem lastS_snoc (S : List (Int × Bool)) (n : Nat) (e : Int × Bool) (h : S[n]? = some e) (k : Nat) : lastS (S.take (n + 1)) k = if e.1 % 3 = (k : Int) then e.2 else lastS (S.take n) k := by
  have hn : n < S.length := by
    rcases Nat.lt_or_ge n S.length with h' | h'
    · exact h'
    · rw [List.getElem?_eq_none h'] at h; cases h
  have he : S[n] = e := by rw [List.getElem?_eq_getElem hn] at h; simpa using h
  unfold lastS
  rw [List.take_succ_eq_append_getElem hn, List.foldl_append, List.foldl_cons, List.foldl_nil, he]

theorem lastS_step (S : List (Int × Bool)) (n : Nat) (e1 : Int) (e2 : Bool) (h : S[n]? = some (e1, e2)) (j : Nat) (hj : e1 % 3 = (j : Int)) : lastS (S.take (n + 1)) = fun k => if k = j then e2 else lastS (S.take n) k := by
  funext k
  rw [lastS_snoc S n _ h k]
  simp only [hj]
  by_cases e : k = j
  · rw [if_pos (by omega), if_pos e]
  · rw [if_neg (by omega), if_neg e]

/-- What stands in the call's own blocks. -/
structure RInv (w wr : World) (B A V A2 M M2 I n n2 : Nat) (f : Nat × Int → Bool) (g : Nat → Bool) : Prop where
  fi : FInv w wr B A M I n f
  threeV : Three wr V
  arrV : ∀ j, j < 3 → wr.cell? ⟨A2, j, none⟩ = some (.pointer (some ⟨V + j, 0, none⟩))
  inp2 : wr.cell? ⟨I, 1, none⟩ = some (.map (some M2))
  map2 : MapHas wr M2 (vkey V) vV n2 g

section
variable {w wr : World} {B A V A2 M M2 I n n2 : Nat} {f : Nat × Int → Bool} {g : Nat → Bool}
theorem RInv.alloc (h : RInv w wr B A V A2 M M2 I n n2 f g) (o : Obj) : RInv w (wr.alloc o) B A V A2 M M2 I n n2 f g where
  fi := h.fi.alloc o
  threeV := three_alloc h.threeV o
  arrV := fun j hj => by rw [← h.arrV j hj]; exact World.cell?_of_block (Below.heap_alloc _ _ _ (cell_lt (h.arrV j hj)))
  inp2 := by rw [← h.inp2]; exact World.cell?_of_block (Below.heap_alloc _ _ _ (cell_lt h.inp2))
  map2 := map_alloc h.map2 o

theorem RInv.drew (h : RInv w wr B A V A2 M M2 I n n2 f g) : RInv w wr.drew B A V A2 M M2 I n n2 f g :=
  ⟨h.fi.drew, h.threeV.of_block fun _ _ => rfl, h.arrV, h.inp2, h.map2.of_block rfl⟩

theorem RInv.below' {w' : World} (h : RInv w wr B A V A2 M M2 I n n2 f g) (hb : Below wr.heap.size wr w') : RInv w w' B A V A2 M M2 I n n2 f g where
  fi := h.fi.below' hb
  threeV := three_below h.threeV hb (Nat.le_refl _)
  arrV := fun j hj => by rw [← h.arrV j hj]; exact hb.cell (cell_lt (h.arrV j hj))
  inp2 := by rw [← h.inp2]; exact hb.cell (cell_lt h.inp2)
  map2 := h.map2.of_block (hb.block _ (map_lt h.map2))

/-- How the blocks lie. -/
def Lies (N B A V A2 M M2 I : Nat) : Prop := N = B ∧ A = B + 3 ∧ V = A + 1 ∧ A2 = V + 3 ∧ M = A2 + 1 ∧ M2 = M + 1 ∧ I = M2 + 1

theorem RInv.update1 (h : RInv w wr B A V A2 M M2 I n n2 f g) (hl : Lies w.heap.size B A V A2 M M2 I) {j : Nat} (hj : j < 3) (x : Int) (v : Bool) :
    ∃ w' n', (Instr.mapUpdate 31 (.map (some M)) (.agg #[.pointer (some ⟨B + j, 0, none⟩), .int .i64 x]) (.bool v)).run Yba.prog wr = .ok () w' ∧
      RInv w w' B A V A2 M M2 I n' n2 (fun k => if k = (j, x) then v else f k) g ∧ (∀ b, b ≠ M → w'.heap[b]? = wr.heap[b]?) ∧ w'.heap.size = wr.heap.size := by
  unfold Lies at hl
  obtain ⟨w', n', hrun, hF, hoth, hsz⟩ := h.fi.update (by omega) (by omega) (by omega) (by omega) hj x v
  refine ⟨w', n', hrun, ⟨hF, h.threeV.of_block fun j hj => hoth _ (by omega), fun j hj => ?_, ?_, h.map2.of_block (hoth _ (by omega))⟩, hoth, hsz⟩
  · rw [← h.arrV j hj]; exact World.cell?_of_block (hoth A2 (by omega))
  · rw [← h.inp2]; exact World.cell?_of_block (hoth I (by omega))

theorem RInv.update2 (h : RInv w wr B A V A2 M M2 I n n2 f g) (hl : Lies w.heap.size B A V A2 M M2 I) {j : Nat} (hj : j < 3) (v : Bool) :
    ∃ w' n', (Instr.mapUpdate 32 (.map (some M2)) (.pointer (some ⟨V + j, 0, none⟩)) (.bool v)).run Yba.prog wr = .ok () w' ∧
      RInv w w' B A V A2 M M2 I n n' f (fun k => if k = j then v else g k) ∧ (∀ b, b ≠ M2 → w'.heap[b]? = wr.heap[b]?) ∧ w'.heap.size = wr.heap.size := by
  unfold Lies at hl
  obtain ⟨o, n', hrun, hm⟩ := h.map2.run_update (k := j) (vkey_ok h.threeV) Yba.underlying32 hj v
  have hoth := heap_set_other wr M2 o
  refine ⟨_, n', hrun, ⟨⟨⟨h.fi.below.os, h.fi.below.tape, h.fi.below.output, ?_, fun k hk => ?_⟩, h.fi.three.of_block fun j hj => ?_, fun j hj => ?_, ?_, h.fi.map.of_block (hoth _ (by omega))⟩, h.threeV.of_block fun j hj => ?_, fun j hj => ?_, ?_, hm⟩, hoth, by simp⟩
  · simpa using h.fi.below.size
  · rw [hoth k (by omega)]; exact h.fi.below.block k hk
  · exact hoth _ (by omega)
  · rw [← h.fi.arr j hj]; exact World.cell?_of_block (hoth A (by omega))
  · rw [← h.fi.inp]; exact World.cell?_of_block (hoth I (by omega))
  · exact hoth _ (by omega)
  · rw [← h.arrV j hj]; exact World.cell?_of_block (hoth A2 (by omega))
  · rw [← h.inp2]; exact World.cell?_of_block (hoth I (by omega))
end

theorem start_factsR (w : World) : RInv w (((((((((((w.alloc (Obj.cells #[Value.pointer none, Value.pointer none] 28)).alloc (Obj.cells #[Value.pointer none, Value.pointer none] 28)).alloc (Obj.cells #[Value.pointer none, Value.pointer none] 28)).alloc (Obj.cells #[Value.pointer (some { block := w.heap.size, off := 0 }), Value.pointer (some { block := w.heap.size + 1, off := 0 }), Value.pointer (some { block := w.heap.size + 1 + 1, off := 0 })] 29)).alloc (Obj.cells #[Value.int IntKind.i64 0, Value.int IntKind.i64 0, Value.int IntKind.i64 0, Value.int IntKind.i64 0, Value.int IntKind.i64 0, Value.int IntKind.i64 0, Value.nilIface, Value.string { data := #[] }, Value.int IntKind.i64 0, Value.bool false, Value.bool false, Value.bool false, Value.pointer none, Value.nilIface] 59)).alloc (Obj.cells #[Value.int IntKind.i64 0, Value.int IntKind.i64 0, Value.int IntKind.i64 0, Value.int IntKind.i64 0, Value.int IntKind.i64 0, Value.int IntKind.i64 0, Value.nilIface, Value.string { data := #[] }, Value.int IntKind.i64 0, Value.bool false, Value.bool false, Value.bool false, Value.pointer none, Value.nilIface] 59)).alloc (Obj.cells #[Value.int IntKind.i64 0, Value.int IntKind.i64 0, Value.int IntKind.i64 0, Value.int IntKind.i64 0, Value.int IntKind.i64 0, Value.int IntKind.i64 0, Value.nilIface, Value.string { data := #[] }, Value.int IntKind.i64 0, Value.bool false, Value.bool false, Value.bool false, Value.pointer none, Value.nilIface] 59)).alloc (Obj.cells #[Value.pointer (some { block := w.heap.size + 1 + 1 + 1 + 1, off := 0 }), Value.pointer (some { block := w.heap.size + 1 + 1 + 1 + 1 + 1, off := 0 }), Value.pointer (some { block := w.heap.size + 1 + 1 + 1 + 1 + 1 + 1, off := 0 })] 60)).alloc (Obj.map #[] 0)).alloc (Obj.map #[] 0)).alloc (Obj.cells #[Value.map (some (w.heap.size + 1 + 1 + 1 + 1 + 1 + 1 + 1 + 1)), Value.map (some (w.heap.size + 1 + 1 + 1 + 1 + 1 + 1 + 1 + 1 + 1))] 34)) (w.heap.size) (w.heap.size + 1 + 1 + 1) (w.heap.size + 1 + 1 + 1 + 1) (w.heap.size + 1 + 1 + 1 + 1 + 1 + 1 + 1) (w.heap.size + 1 + 1 + 1 + 1 + 1 + 1 + 1 + 1) (w.heap.size + 1 + 1 + 1 + 1 + 1 + 1 + 1 + 1 + 1) (w.heap.size + 1 + 1 + 1 + 1 + 1 + 1 + 1 + 1 + 1 + 1) 0 0 (lastV []) (lastS []) where
  fi := {
    below := (((((((((((Below.refl _ _).alloc (Nat.le_refl _) _).alloc (by simp) _).alloc (by simp; omega) _).alloc (by simp; omega) _).alloc (by simp; omega) _).alloc (by simp; omega) _).alloc (by simp; omega) _).alloc (by simp; omega) _).alloc (by simp; omega) _).alloc (by simp; omega) _).alloc (by simp; omega) _
    three := fun j hj => by
      match j, hj with
      | 0, _ => exact ⟨_, _, by simp only [alloc_at, alloc_size]; repeat (first | rw [if_pos True.intro] | rw [if_pos (by omega)] | rw [if_neg (by omega)])⟩
      | 1, _ => exact ⟨_, _, by simp only [alloc_at, alloc_size]; repeat (first | rw [if_pos True.intro] | rw [if_pos (by omega)] | rw [if_neg (by omega)])⟩
      | 2, _ => exact ⟨_, _, by simp only [alloc_at, alloc_size]; repeat (first | rw [if_pos True.intro] | rw [if_pos (by omega)] | rw [if_neg (by omega)])⟩
    arr := fun j hj => by
      match j, hj with
      | 0, _ => simp [go_sem]
      | 1, _ => simp [go_sem]
      | 2, _ => simp [go_sem]
    inp := by simp [go_sem]
    map := ⟨[], 0, by simp only [alloc_at, alloc_size]; rw [if_neg (by omega), if_neg (by omega), if_pos True.intro]; rfl, by simp, rfl, fun k => rfl⟩ }
  threeV := fun j hj => by
    match j, hj with
    | 0, _ => exact ⟨_, _, by simp only [alloc_at, alloc_size]; repeat (first | rw [if_pos True.intro] | rw [if_pos (by omega)] | rw [if_neg (by omega)])⟩
    | 1, _ => exact ⟨_, _, by simp only [alloc_at, alloc_size]; repeat (first | rw [if_pos True.intro] | rw [if_pos (by omega)] | rw [if_neg (by omega)])⟩
    | 2, _ => exact ⟨_, _, by simp only [alloc_at, alloc_size]; repeat (first | rw [if_pos True.intro] | rw [if_pos (by omega)] | rw [if_neg (by omega)])⟩
  arrV := fun j hj => by
    match j, hj with
    | 0, _ => simp [go_sem]
    | 1, _ => simp [go_sem]
    | 2, _ => simp [go_sem]
  inp2 := by simp [go_sem]
  map2 := ⟨[], 0, by simp only [alloc_at, alloc_size]; repeat (first | rw [if_pos (by omega)] | rw [if_neg (by omega)]); rfl, by simp, rfl, fun k => rfl⟩

theorem inf48 : (Yba.prog.info? 48).map (fun i => (i.zero, i.size, i.bytes)) = some (some (.pointer none), 1, 8) := by kernel_rfl

theorem take_map_snoc (l : List Nat) (V k j : Nat) (h : l[k]? = some j) : (l.take (k + 1)).map (vkey V) = (l.take k).map (vkey V) ++ [.pointer (some ⟨V + j, 0, none⟩)] := by
  have hn : k < l.length := by
    rcases Nat.lt_or_ge k l.length with h' | h'
    · exact h'
    · rw [List.getElem?_eq_none h'] at h; cases h
  have he : l[k] = j := by rw [List.getElem?_eq_getElem hn] at h; simpa using h
  rw [List.take_succ_eq_append_getElem hn, List.map_append, he]
  rfl

theorem row_block {wr : World} {base e s n k : Nat} {v : Value} {xs : List Value} (h : wr.ownsRow base e s v n xs) (hk : v.ownBlock = some k) : base ≤ k := by
  obtain ⟨_, h⟩ := h
  rcases h with ⟨rfl, _⟩ | ⟨g, cap, cur, rfl, hg, _⟩
  · simp [Value.ownBlock] at hk
  · simp [Value.ownBlock] at hk
    omega

/-- The row that the call has gathered, as the callee is told of it. -/
theorem ptrs_of_row {wr : World} {base V n : Nat} {v : Value} {js : List Nat} (h : wr.ownsRow base 48 1 v n (js.map (vkey V))) (hj : ∀ j ∈ js, j < 3) : ∃ a cap, v = .slice a n cap ∧ IsPtrs wr a n V js := by
  obtain ⟨hl, h⟩ := h
  have hlen : js.length = n := by simpa using hl
  rcases h with ⟨rfl, rfl⟩ | ⟨g, cap, cur, rfl, _, hh, hn, hm, _, hc⟩
  · exact ⟨none, 0, rfl, hlen, by unfold maxLen; omega, fun h => absurd h (Nat.lt_irrefl _), hj⟩
  · refine ⟨_, cap, rfl, hlen, Nat.le_trans hn hm, fun _ => ⟨g, 0, rfl, ?_, fun i j hij => ?_⟩, hj⟩
    · rcases Nat.lt_or_ge g wr.heap.size with h | h
      · exact h
      · rw [Array.getElem?_eq_none h] at hh; cases hh
    · have hi : i < n := by
        rcases Nat.lt_or_ge i n with h | h
        · exact h
        · rw [List.getElem?_eq_none (by omega)] at hij; cases hij
      have e1 : (cur.toList.take (n * 1))[i]? = some (vkey V j) := by rw [hc, List.getElem?_map, hij]; rfl
      rw [List.getElem?_take_of_lt (by omega)] at e1
      simp only [World.cell?, hh, Nat.zero_add]
      simpa [vkey] using e1

set_option maxHeartbeats 4000000 in
set_option maxRecDepth 100000 in
theorem reaches_walk (ea : Option Addr) (el ec : Nat) (E : List (Int × Int × Bool)) (sa : Option Addr) (sl sc : Nat) (S : List (Int × Bool)) (sel : Int) (d : Bool) (pa : Option Addr) (pl pc : Nat) (ps : List Int) (ra : Option Addr) (rl rc : Nat) (R : List Int)
    (w : World) (h1 : el ≤ 1024) (h2 : pl ≤ 1024) (h3 : sl ≤ 1024) (h4 : rl ≤ 1024) (hs0 : 0 ≤ sel) (hs1 : sel ≤ 255)
    (he : IsEnts w ea el E) (hs : IsStates w sa sl S) (hp : IsInts .i64 w pa pl ps) (hr : IsInts .u8 w ra rl R) :
    Calls Yba.prog 4 #[.slice ea el ec, .slice sa sl sc, .int .u8 sel, .bool d, .slice pa pl pc, .slice ra rl rc] w fun e w' => e = .returned (.bool true) ∧ Below w.heap.size w w' := by
  have hmm := @run_makeMap Yba.prog
  have hF0 := start_factsR w
  have he0 := he
  have hs00 := hs
  obtain ⟨helen, hemax, hecell, hef⟩ := he
  obtain ⟨hslen, hsmax, hscell, hsf⟩ := hs
  go_enter Yba.func4, Yba.ntmps4
  go_wp2
  clear hmm
  generalize ((((((((((w.alloc (Obj.cells #[Value.pointer none, Value.pointer none] 28)).alloc (Obj.cells #[Value.pointer none, Value.pointer none] 28)).alloc (Obj.cells #[Value.pointer none, Value.pointer none] 28)).alloc (Obj.cells #[Value.pointer (some { block := w.heap.size, off := 0 }), Value.pointer (some { block := w.heap.size + 1, off := 0 }), Value.pointer (some { block := w.heap.size + 1 + 1, off := 0 })] 29)).alloc (Obj.cells #[Value.int IntKind.i64 0, Value.int IntKind.i64 0, Value.int IntKind.i64 0, Value.int IntKind.i64 0, Value.int IntKind.i64 0, Value.int IntKind.i64 0, Value.nilIface, Value.string { data := #[] }, Value.int IntKind.i64 0, Value.bool false, Value.bool false, Value.bool false, Value.pointer none, Value.nilIface] 59)).alloc (Obj.cells #[Value.int IntKind.i64 0, Value.int IntKind.i64 0, Value.int IntKind.i64 0, Value.int IntKind.i64 0, Value.int IntKind.i64 0, Value.int IntKind.i64 0, Value.nilIface, Value.string { data := #[] }, Value.int IntKind.i64 0, Value.bool false, Value.bool false, Value.bool false, Value.pointer none, Value.nilIface] 59)).alloc (Obj.cells #[Value.int IntKind.i64 0, Value.int IntKind.i64 0, Value.int IntKind.i64 0, Value.int IntKind.i64 0, Value.int IntKind.i64 0, Value.int IntKind.i64 0, Value.nilIface, Value.string { data := #[] }, Value.int IntKind.i64 0, Value.bool false, Value.bool false, Value.bool false, Value.pointer none, Value.nilIface] 59)).alloc (Obj.cells #[Value.pointer (some { block := w.heap.size + 1 + 1 + 1 + 1, off := 0 }), Value.pointer (some { block := w.heap.size + 1 + 1 + 1 + 1 + 1, off := 0 }), Value.pointer (some { block := w.heap.size + 1 + 1 + 1 + 1 + 1 + 1, off := 0 })] 60)).alloc (Obj.map #[] 0)).alloc (Obj.map #[] 0)).alloc (Obj.cells #[Value.map (some (w.heap.size + 1 + 1 + 1 + 1 + 1 + 1 + 1 + 1)), Value.map (some (w.heap.size + 1 + 1 + 1 + 1 + 1 + 1 + 1 + 1 + 1))] 34) = W at *
  generalize hA : w.heap.size + 1 + 1 + 1 = A at *
  generalize hV : A + 1 = V at *
  generalize hA2 : V + 1 + 1 + 1 = A2 at *
  generalize hM : A2 + 1 = M at *
  generalize hM2 : M + 1 = M2 at *
  generalize hI : M2 + 1 = I at *
  have HL : Hid (Lies w.heap.size w.heap.size A V A2 M M2 I) := by
    show Lies _ _ _ _ _ _ _ _
    unfold Lies; omega
  clear hA hV hA2 hM hM2 hI
  go_loopw [70] (fun i wr => ∃ k n n2 : Nat, k ≤ el ∧ i = .int .i64 k ∧ RInv w wr w.heap.size A V A2 M M2 I n n2 (lastV (E.take k)) (lastS [])) (fun i _ => el - (intOf i).toNat)
  case atStart => exact ⟨0, 0, 0, Nat.zero_le _, rfl, hF0⟩
  case round =>
    obtain ⟨k, n, n2, hk, rfl, hF⟩ := hrel
    clear hF0 hscell hsf
    by_cases hln : k < el
    · obtain ⟨eb, eo, rfl, heb, hec⟩ := hecell (by omega)
      obtain ⟨⟨e1, e2, e3⟩, hE⟩ : ∃ e, E[k]? = some e := ⟨_, List.getElem?_eq_getElem (by omega)⟩
      obtain ⟨hx1, hx2, hx3⟩ := hec k _ hE
      obtain ⟨g1, g2⟩ := hef _ (List.mem_of_getElem? hE)
      simp only at hx1 hx2 hx3 g1 g2
      obtain ⟨j, hj3, hj⟩ : ∃ j : Nat, j < 3 ∧ e1 % 3 = (j : Int) := ⟨(e1 % 3).toNat, by omega, by omega⟩
      have HS : Hid (lastV (E.take (k + 1)) = fun q => if q = (j, e2) then e3 else lastV (E.take k) q) := lastV_step E k e1 e2 e3 hE j hj
      have hy1 := (hF.fi.below.cell (p := ⟨eb, eo + k * 3, none⟩) heb).trans hx1
      have hy2 := (hF.fi.below.cell (p := ⟨eb, eo + k * 3 + 1, none⟩) heb).trans hx2
      have hy3 := (hF.fi.below.cell (p := ⟨eb, eo + k * 3 + 2, none⟩) heb).trans hx3
      clear hec hecell hE hx1 hx2 hx3 hef hr hp he0 hs00
      have hF1 := (hF.alloc (.cells #[.int .u8 e1, .int .i64 e2, .bool e3] 36)).drew
      obtain ⟨w3, n', hrun, hF3, hoth, hsz3⟩ := hF1.update1 HL.out hj3 e2 e3
      have hz := hF.fi.below.size
      have hebr : eb < wr.heap.size := by omega
      have hc0 : (wr.alloc (Obj.cells #[.int .u8 e1, .int .i64 e2, .bool e3] 36)).cell? ⟨wr.heap.size, 0, none⟩ = some (.int .u8 e1) := by simp [go_sem]
      have hc1 : (wr.alloc (Obj.cells #[.int .u8 e1, .int .i64 e2, .bool e3] 36)).cell? ⟨wr.heap.size, 1, none⟩ = some (.int .i64 e2) := by simp [go_sem]
      have hc2 : (wr.alloc (Obj.cells #[.int .u8 e1, .int .i64 e2, .bool e3] 36)).cell? ⟨wr.heap.size, 2, none⟩ = some (.bool e3) := by simp [go_sem]
      have hcI := (hF.alloc (.cells #[.int .u8 e1, .int .i64 e2, .bool e3] 36)).fi.inp
      have hcA := (hF.alloc (.cells #[.int .u8 e1, .int .i64 e2, .bool e3] 36)).fi.arr j hj3
      go_wp2
      generalize wr.alloc (Obj.cells #[.int .u8 e1, .int .i64 e2, .bool e3] 36) = W1 at *
      have hMr : wr.heap.size ≠ M := by have := map_lt hF.fi.map; omega
      have hd0 : w3.cell? ⟨wr.heap.size, 0, none⟩ = some (.int .u8 e1) := by rw [← hc0]; exact World.cell?_of_block (hoth _ hMr)
      have hd1 : w3.cell? ⟨wr.heap.size, 1, none⟩ = some (.int .i64 e2) := by rw [← hc1]; exact World.cell?_of_block (hoth _ hMr)
      have hd2 : w3.cell? ⟨wr.heap.size, 2, none⟩ = some (.bool e3) := by rw [← hc2]; exact World.cell?_of_block (hoth _ hMr)
      have hjI : (j : Int) < 3 := by omega
      have hj0 : (0 : Int) ≤ (j : Int) := by omega
      have hw1 := wrap_small g1 g2
      have hw2 : e1.tmod 3 = (j : Int) := by rw [Int.tmod_eq_emod_of_nonneg g1]; exact hj
      have hdI := hF3.fi.inp
      have hdA := hF3.fi.arr j hj3
      clear hF1 hoth hy1 hy2 hy3 hebr hF
      go_region_held3 (fun w' => w'.cell? ⟨wr.heap.size, 0, none⟩ = some (.int .u8 e1) ∧ w'.cell? ⟨wr.heap.size, 1, none⟩ = some (.int .i64 e2) ∧ w'.cell? ⟨wr.heap.size, 2, none⟩ = some (.bool e3) ∧ w'.cell? ⟨I, 0, none⟩ = some (.map (some M)) ∧ w'.cell? ⟨A, j, none⟩ = some (.pointer (some ⟨w.heap.size + j, 0, none⟩))) (go_keep) (fail)
      go_wp2
      go_roundw
      case rel => exact ⟨k + 1, n', n2, by omega, by go_num, HS.out ▸ hF3⟩
      case measure => simp [intOf]; omega
    · rw [List.take_of_length_le (by omega)] at hF
      clear hecell hef
      obtain ⟨hslen, hsmax, hscell, hsf⟩ := hs00
      go_wp2
      go_loopw [92] (fun i wr => ∃ k n n2 : Nat, k ≤ sl ∧ i = .int .i64 k ∧ RInv w wr w.heap.size A V A2 M M2 I n n2 (lastV E) (lastS (S.take k))) (fun i _ => sl - (intOf i).toNat)
      case atStart => exact ⟨0, n, n2, Nat.zero_le _, rfl, hF⟩
      case round =>
        clear hF hln hk
        obtain ⟨k, n, n2, hk, rfl, hF⟩ := hrel
        by_cases hln : k < sl
        · obtain ⟨eb, eo, rfl, heb, hec⟩ := hscell (by omega)
          obtain ⟨⟨e1, e3⟩, hE⟩ : ∃ e, S[k]? = some e := ⟨_, List.getElem?_eq_getElem (by omega)⟩
          obtain ⟨hx1, hx2⟩ := hec k _ hE
          obtain ⟨g1, g2⟩ := hsf _ (List.mem_of_getElem? hE)
          simp only at hx1 hx2 g1 g2
          obtain ⟨j, hj3, hj⟩ : ∃ j : Nat, j < 3 ∧ e1 % 3 = (j : Int) := ⟨(e1 % 3).toNat, by omega, by omega⟩
          have HS : Hid (lastS (S.take (k + 1)) = fun q => if q = j then e3 else lastS (S.take k) q) := lastS_step S k e1 e3 hE j hj
          have hy1 := (hF.fi.below.cell (p := ⟨eb, eo + k * 2, none⟩) heb).trans hx1
          have hy2 := (hF.fi.below.cell (p := ⟨eb, eo + k * 2 + 1, none⟩) heb).trans hx2
          clear hec hscell hE hx1 hx2 hsf hr hp he0
          have hF1 := (hF.alloc (.cells #[.int .u8 e1, .bool e3] 62)).drew
          obtain ⟨w3, n', hrun, hF3, hoth, hsz3⟩ := hF1.update2 HL.out hj3 e3
          have hz := hF.fi.below.size
          have hebr : eb < wr.heap.size := by omega
          have hc0 : (wr.alloc (Obj.cells #[.int .u8 e1, .bool e3] 62)).cell? ⟨wr.heap.size, 0, none⟩ = some (.int .u8 e1) := by simp [go_sem]
          have hc2 : (wr.alloc (Obj.cells #[.int .u8 e1, .bool e3] 62)).cell? ⟨wr.heap.size, 1, none⟩ = some (.bool e3) := by simp [go_sem]
          have hcI := (hF.alloc (.cells #[.int .u8 e1, .bool e3] 62)).inp2
          have hcA := (hF.alloc (.cells #[.int .u8 e1, .bool e3] 62)).arrV j hj3
          go_wp2
          generalize wr.alloc (Obj.cells #[.int .u8 e1, .bool e3] 62) = W1 at *
          have hMr : wr.heap.size ≠ M2 := by have := map_lt hF.map2; omega
          have hd0 : w3.cell? ⟨wr.heap.size, 0, none⟩ = some (.int .u8 e1) := by rw [← hc0]; exact World.cell?_of_block (hoth _ hMr)
          have hd2 : w3.cell? ⟨wr.heap.size, 1, none⟩ = some (.bool e3) := by rw [← hc2]; exact World.cell?_of_block (hoth _ hMr)
          have hjI : (j : Int) < 3 := by omega
          have hj0 : (0 : Int) ≤ (j : Int) := by omega
          have hw1 := wrap_small g1 g2
          have hw2 : e1.tmod 3 = (j : Int) := by rw [Int.tmod_eq_emod_of_nonneg g1]; exact hj
          have hdI := hF3.inp2
          have hdA := hF3.arrV j hj3
          clear hF1 hoth hy1 hy2 hebr hF
          go_region_held3 (fun w' => w'.cell? ⟨wr.heap.size, 0, none⟩ = some (.int .u8 e1) ∧ w'.cell? ⟨wr.heap.size, 1, none⟩ = some (.bool e3) ∧ w'.cell? ⟨I, 1, none⟩ = some (.map (some M2)) ∧ w'.cell? ⟨A2, j, none⟩ = some (.pointer (some ⟨V + j, 0, none⟩))) (go_keep) (fail)
          go_wp2
          go_roundw
          case rel => exact ⟨k + 1, n, n', by omega, by go_num, HS.out ▸ hF3⟩
          case measure => simp [intOf]; omega
        · rw [List.take_of_length_le (by omega)] at hF
          have hs00 : IsStates w sa sl S := ⟨hslen, hsmax, hscell, hsf⟩
          clear hscell hsf
          go_upto_if 113 with fail
          go_cut [20] from 32 (fun v wx => (∃ fn, IsFn w.heap.size v fn) ∧ wx = wr)
          case first =>
            by_cases hsel : sel % 4 < 3
            · obtain ⟨s, hs3, hs⟩ : ∃ s : Nat, s < 3 ∧ sel % 4 = (s : Int) := ⟨(sel % 4).toNat, by omega, by omega⟩
              have hcA := hF.fi.arr s hs3
              go_wp2
              go_meet
              case rel => exact ⟨⟨some s, .inr ⟨s, hs3, rfl, rfl⟩⟩, rfl⟩
            · go_wp2
              go_meet
              case rel => exact ⟨⟨none, .inl ⟨rfl, rfl⟩⟩, rfl⟩
          case rest =>
            obtain ⟨⟨fn, hfn⟩, rfl⟩ := hcut
            obtain ⟨i0, hi, hz0, hz1, hz2⟩ := info_parts inf48
            have hzw := hF.fi.below.size
            go_wp2_with (at_make; refine wpList_make_own _ rfl _ _ 40 rfl wc.heap.size 48 i0 (.pointer none) 1 Yba.underlying40 hi hz0 hz1 _ _ _ rl rfl rfl (by omega) (by rw [hz2]; omega) (by unfold maxLen; omega) (Nat.le_refl _) ?_; intro w0 hown0 hgrow0)
            have hb0 : Below wc.heap.size wc w0 := (Below.refl _ _).grown hgrow0 (Nat.le_refl _) (fun k h => by cases h)
            clear hgrow0
            have hr1 := hr.below hF.fi.below (Nat.le_refl _)
            obtain ⟨hrl, hrmax, hrcell, hrwf⟩ := hr1
            go_loopw [22, 122] (fun v i wr => ∃ k : Nat, k ≤ rl ∧ i = .int .i64 k ∧ wr.ownsRow wc.heap.size 48 1 v k (((R.map fun r => (r % 3).toNat).take k).map (vkey V)) ∧ Below wc.heap.size wc wr) (fun _ i _ => rl - (intOf i).toNat)
            case atStart => exact ⟨0, Nat.zero_le _, rfl, hown0, hb0⟩
            case round =>
              obtain ⟨k, hk, rfl, hown, hbr⟩ := hrel
              by_cases hlt : k < rl
              · obtain ⟨b, off, rfl, hb, hc⟩ := hrcell (by omega)
                have hck := hc k hlt
                obtain ⟨r, hrk⟩ : ∃ r, R[k]? = some r := ⟨_, List.getElem?_eq_getElem (by omega)⟩
                have hrb := bounds_u8 (hrwf r (List.mem_of_getElem? hrk))
                rw [hrk] at hck
                simp only [Option.getD_some] at hck
                obtain ⟨g1, g2⟩ := hrb
                obtain ⟨j, hj3, hj⟩ : ∃ j : Nat, j < 3 ∧ r % 3 = (j : Int) := ⟨(r % 3).toNat, by omega, by omega⟩
                have HS : Hid (((R.map fun r => (r % 3).toNat).take (k + 1)).map (vkey V) = ((R.map fun r => (r % 3).toNat).take k).map (vkey V) ++ [.pointer (some ⟨V + j, 0, none⟩)]) := take_map_snoc _ V k j (by rw [List.getElem?_map, hrk]; simp [hj])
                have hck2 := (hbr.cell (p := ⟨b, off + k, none⟩) hb).trans hck
                have hcA := (hbr.cell (p := ⟨A2, j, none⟩) (cell_lt (hF.arrV j hj3))).trans (hF.arrV j hj3)
                have hbw := hbr.size
                have hA2w : A2 < wr.heap.size := cell_lt hcA
                have hbw2 : b < wr.heap.size := by omega
                clear hrcell hc hck hrwf hrk hF hown0 hb0
                go_wp2_with (at_builtin; refine wpList_append_own _ rfl _ _ 40 rfl wc.heap.size 48 i0 (.pointer none) 1 8 Yba.underlying40 hi hz0 hz1 hz2 rfl (by decide) _ _ _ rfl (hown.alloc _) ⟨wr.heap.size, 0, none⟩ 1 1 [.pointer (some ⟨V + j, 0, none⟩)] rfl rfl (by intro t u ht; match t, ht with | 0, ht => simp at ht; subst ht; simp [Addr.add]) (by intro u hu; simp at hu; subst hu; rfl) (by unfold maxLen; omega) (by omega) (by simp; omega) ?_; intro v' w1 hown' hgrow _)
                have hg2 : (wr.alloc (Obj.cells #[Value.pointer (some { block := V + j, off := 0 })] 48)).grownBy w1 u22.ownBlock := hgrow
                go_roundw
                case rel => exact ⟨k + 1, by omega, by go_num, HS.out ▸ hown', (hbr.alloc hbr.size _).grown hg2 (by simp; omega) (fun k hk => row_block hown hk)⟩
                case measure => simp [intOf]; omega
              · have hkr : k = rl := by omega
                subst hkr
                rw [List.take_of_length_le (by simp; omega)] at hown
                obtain ⟨ta, tc, rfl, htp⟩ := ptrs_of_row hown (by intro j hj; simp at hj; omega)
                have hF2 := hF.below' hbr
                have he2 := he0.below hF2.fi.below (Nat.le_refl _)
                have hs2 := hs00.below hF2.fi.below (Nat.le_refl _)
                have hp2 := hp.below hF2.fi.below (Nat.le_refl _)
                have hr2 := hr.below hF2.fi.below (Nat.le_refl _)
                have hA0 : wr.cell? ⟨A, 0, none⟩ = some (.pointer (some ⟨w.heap.size, 0, none⟩)) := hF2.fi.arr 0 (by omega)
                have hA1 : wr.cell? ⟨A, 1, none⟩ = some (.pointer (some ⟨w.heap.size + 1, 0, none⟩)) := hF2.fi.arr 1 (by omega)
                have hA2 : wr.cell? ⟨A, 2, none⟩ = some (.pointer (some ⟨w.heap.size + 2, 0, none⟩)) := hF2.fi.arr 2 (by omega)
                clear hrcell hrwf hF hown0 hb0 hown hr hs00 he0 hbr hi hz0 hz1 hz2
                go_wp2_with fail
                refine (model_gen w.heap.size _ fn hfn d ea el ec E pa pl pc ps wr he2 hp2 hF2.fi.three).mono ?_
                rintro e w2 ⟨rfl, hb2⟩
                have hF3 := hF2.below' hb2
                have hs3 := hs2.below hb2 (Nat.le_refl _)
                have hp3 := hp2.below hb2 (Nat.le_refl _)
                have hr3 := hr2.below hb2 (Nat.le_refl _)
                have htp3 := htp.below hb2 (Nat.le_refl _)
                clear hF2 he2 hs2 hp2 hr2 htp hA0 hA1 hA2 hb2
                obtain ⟨q, hq⟩ : ∃ q, (d || fnAny (lastV E) fn ps) = q := ⟨_, rfl⟩
                rw [hq]
                have HQ : Hid ((d || fnAny (lastV E) fn ps) = q) := hq
                clear hq
                go_upto_if 142 with fail
                go_cut [25] from 32 (fun v wx => v = .bool (q || (R.map fun r => (r % 3).toNat).any (lastS S)) ∧ Below w2.heap.size w2 wx)
                case first =>
                  clear hF3 hp3 htp3 HQ
                  cases q
                  · obtain ⟨hrl3, hrmax3, hrcell, hrwf⟩ := hr3
                    obtain ⟨hslen3, hsmax3, hscell, hsf⟩ := hs3
                    go_wp2
                    go_loopw [25, 145] (fun v i wr => ∃ k : Nat, k ≤ R.length ∧ i = .int .i64 k ∧ v = .bool false ∧ ((R.map fun r => (r % 3).toNat).take k).any (lastS S) = false ∧ Below w2.heap.size w2 wr) (fun _ i _ => R.length - (intOf i).toNat)
                    case atStart => exact ⟨0, Nat.zero_le _, rfl, rfl, rfl, Below.refl _ _⟩
                    case round =>
                      obtain ⟨k2, hk2, rfl, rfl, hany, hbr⟩ := hrel
                      have HA : Hid (((R.map fun r => (r % 3).toNat).take k2).any (lastS S) = false) := hany
                      clear hany
                      by_cases hlt2 : k2 < R.length
                      · obtain ⟨b, off, rfl, hb, hc⟩ := hrcell (by omega)
                        have hck := hc k2 (by omega)
                        obtain ⟨r, hrk⟩ : ∃ r, R[k2]? = some r := ⟨_, List.getElem?_eq_getElem (by omega)⟩
                        obtain ⟨g1, g2⟩ := bounds_u8 (hrwf r (List.mem_of_getElem? hrk))
                        rw [hrk] at hck
                        simp only [Option.getD_some] at hck
                        obtain ⟨j, hj3, hj⟩ : ∃ j : Nat, j < 3 ∧ r % 3 = (j : Int) := ⟨(r % 3).toNat, by omega, by omega⟩
                        have hjs : (R.map fun r => (r % 3).toNat)[k2]? = some j := by rw [List.getElem?_map, hrk]; simp [hj]
                        have HS : Hid (((R.map fun r => (r % 3).toNat).take (k2 + 1)).any (lastS S) = (((R.map fun r => (r % 3).toNat).take k2).any (lastS S) || lastS S j)) := any_snoc (lastS S) _ k2 j hjs
                        have HT : Hid (lastS S j = true → (R.map fun r => (r % 3).toNat).any (lastS S) = true) := any_hit (lastS S) _ k2 j hjs
                        have hck2 := (hbr.cell (p := ⟨b, off + k2, none⟩) hb).trans hck
                        have hbw := hbr.size
                        have hbw2 : b < wr.heap.size := by omega
                        clear hrcell hc hck hrwf hrk hjs
                        go_wp2
                        go_loopw [28, 151] (fun v i wr => ∃ n : Nat, n ≤ sl ∧ i = .int .i64 n ∧ v = .bool (lastS (S.take n) j) ∧ Below w2.heap.size w2 wr) (fun _ i _ => sl - (intOf i).toNat)
                        case atStart => exact ⟨0, Nat.zero_le _, rfl, rfl, hbr⟩
                        case round =>
                          obtain ⟨n5, hn5, rfl, rfl, hbr5⟩ := hrel
                          clear hbr hbw hbw2 hck2
                          by_cases hln5 : n5 < sl
                          · obtain ⟨eb, eo, rfl, heb, hec⟩ := hscell (by omega)
                            obtain ⟨⟨e1, e3⟩, hE⟩ : ∃ e, S[n5]? = some e := ⟨_, List.getElem?_eq_getElem (by omega)⟩
                            obtain ⟨hx1, hx2⟩ := hec n5 _ hE
                            obtain ⟨g3, g4⟩ := hsf _ (List.mem_of_getElem? hE)
                            simp only at hx1 hx2 g3 g4
                            have HS5 : Hid (lastS (S.take (n5 + 1)) j = if e1 % 3 = (j : Int) then e3 else lastS (S.take n5) j) := lastS_snoc S n5 _ hE j
                            have hy1 := (hbr5.cell (p := ⟨eb, eo + n5 * 2, none⟩) heb).trans hx1
                            have hy2 := (hbr5.cell (p := ⟨eb, eo + n5 * 2 + 1, none⟩) heb).trans hx2
                            have hz5 := hbr5.size
                            have hebr : eb < wr.heap.size := by omega
                            clear hec hscell hE hx1 hx2 hsf
                            obtain ⟨j1, hj13, hj1⟩ : ∃ j1 : Nat, j1 < 3 ∧ e1 % 3 = (j1 : Int) := ⟨(e1 % 3).toNat, by omega, by omega⟩
                            by_cases hjj : j1 = j
                            · subst hjj
                              have HF : Hid (lastS (S.take (n5 + 1)) j1 = e3) := by
                                show _ = _
                                rw [HS5.out, if_pos hj1]
                              go_wp2
                              go_roundw
                              case rel => exact ⟨n5 + 1, by omega, by go_num, by rw [HF.out], hbr5.alloc (by omega) _⟩
                              case measure => simp [intOf]; omega
                            · have HF : Hid (lastS (S.take (n5 + 1)) j = lastS (S.take n5) j) := by
                                show _ = _
                                rw [HS5.out, if_neg (by omega)]
                              have hne : ((j1 : Int) == (j : Int)) = false := by simp; omega
                              go_wp2
                              go_roundw
                              case rel => exact ⟨n5 + 1, by omega, by go_num, by rw [HF.out], hbr5.alloc (by omega) _⟩
                              case measure => simp [intOf]; omega
                          · have HE : Hid (lastS (S.take n5) j = lastS S j) := by
                              show _ = _
                              rw [List.take_of_length_le (by omega)]
                            rw [HE.out]
                            cases hv : lastS S j
                            · have HF : Hid (((R.map fun r => (r % 3).toNat).take (k2 + 1)).any (lastS S) = false) := by
                                show _ = _
                                rw [HS.out, HA.out, hv]; rfl
                              go_wp2
                              go_roundw
                              case rel => exact ⟨k2 + 1, by omega, by go_num, rfl, HF.out, hbr5⟩
                              case measure => simp [intOf]; omega
                            · have HF : Hid ((R.map fun r => (r % 3).toNat).any (lastS S) = true) := HT.out hv
                              go_wp2
                              go_meet
                              case rel => exact ⟨by rw [HF.out]; rfl, hbr5⟩
                      · have HF : Hid ((R.map fun r => (r % 3).toNat).any (lastS S) = false) := by
                          have := HA.out
                          rwa [List.take_of_length_le (by simp; omega)] at this
                        go_wp2
                        go_meet
                        case rel => exact ⟨by rw [HF.out]; rfl, hbr⟩
                  · go_wp2
                    go_meet
                    case rel => exact ⟨rfl, Below.refl _ _⟩
                case rest =>
                  obtain ⟨rfl, hbc⟩ := hcut
                  have hF4 := hF3.below' hbc
                  have hp4 := hp3.below hbc (Nat.le_refl _)
                  have htp4 := htp3.below hbc (Nat.le_refl _)
                  clear hF3 hp3 htp3 hr3 hs3 hbc
                  go_wp2_with fail
                  refine (reaches_gen I M M2 w.heap.size V n n2 _ fn hfn d pa pl pc ps ta _ tc _ _ _ (lastV E) (lastS S) hp4 hF4.fi.inp hF4.fi.map hF4.fi.three htp4 hF4.inp2 hF4.map2 hF4.threeV).mono ?_
                  rintro e w5 ⟨rfl, hb5⟩
                  rw [HQ.out]
                  generalize (q || (R.map fun r => (r % 3).toNat).any (lastS S)) = z
                  go_wp2
                  go_ret
                  exact ⟨rfl, hF4.fi.below.trans (hb5.mono hF4.fi.below.size)⟩

end Go.Proofs.Ybulkbini
