/-
  LAWS OF OUR OWN for the struct 'value' (type 92, 29 cells): built, stored and loaded whole, its cells behind a name, so that nothing is unrolled.
-/
import Derived.Test.YbulkbiniEqualCall
import Derived.Deep.WholeRow
import Derived.Deep.MidRow
namespace Go.Proofs.Ybulkbini
open Go Go.RowKit

/-- A 'value' with its term, its arith, and the bools balance, isTrue, anyBalance. -/
def vz (t ar : Int) (ba tr an : Bool) : Array Value := #[.int .i64 0, .int .i64 0, .pointer none, .pointer none, .int .i64 0, .int .i64 0, .bool ba, .bool false, .bool tr, .bool an, .bool false, .bool false, .bool false, .pointer none,
  .slice none 0 0, .bool false, .slice none 0 0, .slice none 0 0, .slice none 0 0, .slice none 0 0, .bool false, .slice none 0 0, .int .i64 t, .int .i64 ar, .int .i64 0, .int .i64 0, .int .i64 0, .slice none 0 0, .slice none 0 0]

theorem i92 : (Yba.prog.info? 92).map (·.size) = some 29 := by kernel_rfl
theorem build1 (t : Int) (w : World) : (Instr.build 92 #[(9, .int .i64 t)]).run Yba.prog w = .ok (.agg (vz t 0 false false false)) w := by kernel_rfl
theorem build2 (t : Int) (b : Bool) (w : World) : (Instr.build 92 #[(9, .int .i64 t), (7, .bool b)]).run Yba.prog w = .ok (.agg (vz t 0 false false b)) w := by kernel_rfl
theorem build4 (t ar : Int) (ba tr : Bool) (w : World) : (Instr.build 92 #[(9, .int .i64 t), (10, .int .i64 ar), (4, .bool ba), (6, .bool tr)]).run Yba.prog w = .ok (.agg (vz t ar ba tr false)) w := by kernel_rfl

theorem vz_size (t ar : Int) (ba tr an : Bool) : (vz t ar ba tr an).size = 29 := rfl
theorem vz_one (t ar : Int) (ba tr an : Bool) : (vz t ar ba tr an).all (·.oneCell') = true := by simp [vz, Value.oneCell']

section
variable {P : Program} {ops : Array Oper} {rest : List Oper} {op : Oper} {a : Act} {w : World} {Q : Exit → Act → World → Prop}

theorem wpList_build (hgd : op.guard = none) (t : TypeId) (parts : List (Nat × Operand)) (ho : op.op = .build t parts.toArray) (vs : List (Nat × Value)) (hvs : (parts.map fun p => (p.1, a.eval p.2)) = vs) (v : Value)
    (hrun : (Instr.build t vs.toArray).run P w = .ok v w) (h : wpList P ops Q rest (a.put op.dst v) w) : wpList P ops Q (op :: rest) a w :=
  wpList_plain hgd fun K hK => by
    have e : (parts.toArray.map fun p => (p.1, a.eval p.2)) = vs.toArray := by rw [← hvs]; simp
    unfold Oper.wp execOp
    simp only [ho, e, Sem.run_bind, hrun, Result.andThen_ok, Sem.run_pure]
    exact hK _ _ h

theorem wpList_store_new (hgd : op.guard = none) (ty : TypeId) (x y : Operand) (ho : op.op = .store ty x y)
    (c c' : Array Value) (b : Nat) (hx : a.eval x = .pointer (some ⟨b, 0, none⟩)) (hb : b = w.heap.size) (hy : a.eval y = .agg c')
    (n : Nat) (hi : (P.info? ty).map (·.size) = some n) (hs : c.size = n) (hs' : c'.size = n) (h1 : c'.all (·.oneCell') = true)
    (h : wpList P ops Q rest (a.put op.dst undef) (w.alloc (.cells c' ty))) : wpList P ops Q (op :: rest) a (w.alloc (.cells c ty)) :=
  wpList_plain hgd fun K hK => by
    subst hb
    unfold Oper.wp execOp
    simp only [ho, hx, hy, Sem.run_bind, run_storeAt_new w ty c c' (hs'.symm ▸ hi) (hs.trans hs'.symm) h1, Result.andThen_ok]
    exact hK _ _ h

theorem wpList_load_block (hgd : op.guard = none) (ty : TypeId) (x : Operand) (ho : op.op = .load ty x) (b : Nat) (hx : a.eval x = .pointer (some ⟨b, 0, none⟩)) (c : Array Value) (hb : w.heap[b]? = some (.cells c ty (0, 0)))
    (d : TypeDesc) (hu : P.underlying ty = some d) (hd : d.isRow = true) (n : Nat) (hi : (P.info? ty).map (·.size) = some n) (hs : c.size = n)
    (h : wpList P ops Q rest (a.put op.dst (.agg c)) w) : wpList P ops Q (op :: rest) a w := by
  refine wpList_load_mid hgd ty x ho b 0 hx c.toList d ?_ hu hd (by rw [hi]; simp [hs]) (by simpa using h)
  intro j v hv
  simp only [World.cell?, hb]
  simpa using hv
end

/-- The three facts, as the nine cells of the result's row. -/
def facts (xt yt lo hi : Int) : Array Value := #[.int .i64 1, .int .i64 xt, .int .i64 yt, .int .i64 1, .int .i64 yt, .int .i64 xt, .int .i64 3, .int .i64 lo, .int .i64 hi]

theorem equal_vz (I : Value) (t ar : Int) (ba tr an : Bool) (t' ar' : Int) (ba' tr' an' : Bool) (lo hi : Int) (hlo : (if t' < t then t' else t) = lo) (hhi : (if t < t' then t' else t) = hi) (w : World) :
    Calls Yba.prog 10 #[I, .agg (vz t ar ba tr an), .agg (vz t' ar' ba' tr' an')] w
      fun e w' => ∃ g, e = .returned (.slice (some ⟨g, 0, none⟩) 3 3) ∧ w.heap.size ≤ g ∧ w'.heap[g]? = some (.cells (facts t t' lo hi) 97) ∧ Below w.heap.size w w' :=
  equal_core t t' lo hi hlo hhi w

theorem alloc_atV (w : World) (o : Obj) (k : Nat) : (w.alloc o).heap[k]? = if k = w.heap.size then some o else w.heap[k]? := by
  show (w.heap.push o)[k]? = _
  rw [Array.getElem?_push]

theorem start_two (w : World) (o : Obj) (c c' : Array Value) : (((w.alloc o).alloc (.cells c 92)).alloc (.cells c' 92)).heap[w.heap.size + 1]? = some (.cells c 92) ∧ (((w.alloc o).alloc (.cells c 92)).alloc (.cells c' 92)).heap[w.heap.size + 1 + 1]? = some (.cells c' 92) ∧
    Below w.heap.size w (((w.alloc o).alloc (.cells c 92)).alloc (.cells c' 92)) := by
  refine ⟨?_, ?_, (((Below.refl _ _).alloc (Nat.le_refl _) _).alloc (by simp) _).alloc (by simp; omega) _⟩
  · rw [alloc_atV, if_neg (by simp), alloc_atV, if_pos (by simp)]
  · rw [alloc_atV, if_pos (by simp)]

theorem block_lt {w : World} {b : Nat} {o : Obj} (h : w.heap[b]? = some o) : b < w.heap.size := by
  rcases Nat.lt_or_ge b w.heap.size with h' | h'
  · exact h'
  · rw [Array.getElem?_eq_none h'] at h; cases h
end Go.Proofs.Ybulkbini
