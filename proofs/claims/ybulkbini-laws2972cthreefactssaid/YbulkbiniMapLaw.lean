/-
  LAWS OF OUR OWN on a map that the call makes, its keys values that no closed datum reads (pointers; structs that hold one), its elements bools. Over whatever program.
  'MapHas P w M kf V n f': block M is a map of n entries; every key is 'kf k' of a k in V; the look-up at 'kf k' gives 'f k'.
-/
import Derived.WalkKit
import Derived.ProofKit
namespace Go.Proofs.Ybulkbini
open Go

/-- WHAT THE LAWS WANT OF THE KEYS, at one world. -/
structure KeyOk {K : Type} [DecidableEq K] (P : Program) (w : World) (kt : TypeId) (kf : K → Value) (V : K → Prop) : Prop where
  desc : ∃ d, P.underlying kt = some d ∧ ∀ k k', Instr.sameNow d (kf k) (kf k') = none
  eq : ∀ k k', V k → V k' → (Op.equal kt (kf k) (kf k')).run P w = .ok (decide (k = k')) w
  check : ∀ k em, V k → (Instr.checkKey em 10000 kt (kf k)).run P w = .ok () w
  stays : ∀ k, Instr.sameBits 10000 (kf k) (kf k) = true

def mkE {K : Type} (kf : K → Value) (x : K × Bool × Nat) : MapEntry := { key := kf x.1, val := .bool x.2.1, born := x.2.2 }

def look {K : Type} [DecidableEq K] : List (K × Bool × Nat) → K → Bool
  | [], _ => false
  | x :: xs, k => if x.1 = k then x.2.1 else look xs k

def findL {K : Type} [DecidableEq K] : List (K × Bool × Nat) → K → Nat → Option (Nat × Value)
  | [], _, _ => none
  | x :: xs, k, n => if x.1 = k then some (n, .bool x.2.1) else findL xs k (n + 1)

theorem valid_modify {K : Type} {V : K → Prop} {k : K} (hk : V k) (v : Bool) : ∀ (L : List (K × Bool × Nat)) (j : Nat), (∀ x ∈ L, V x.1) → ∀ x ∈ L.modify j (fun x => (k, v, x.2.2)), V x.1
  | [], j, _ => by simp
  | x :: xs, 0, h => by
    intro y hy
    rw [List.modify_zero_cons] at hy
    rcases List.mem_cons.1 hy with rfl | hy
    · exact hk
    · exact h y (by simp [hy])
  | x :: xs, j + 1, h => by
    intro y hy
    rw [List.modify_succ_cons] at hy
    rcases List.mem_cons.1 hy with rfl | hy
    · exact h y (by simp)
    · exact valid_modify hk v xs j (fun z hz => h z (by simp [hz])) y hy

theorem map_modify {K : Type} {kf : K → Value} {k : K} (v : Bool) : ∀ (L : List (K × Bool × Nat)) (j : Nat), (L.map (mkE kf)).modify j (fun e => { e with key := kf k, val := .bool v }) = (L.modify j (fun x => (k, v, x.2.2))).map (mkE kf)
  | [], _ => by simp
  | x :: xs, 0 => by simp [mkE]
  | x :: xs, j + 1 => by simp [map_modify v xs j]

section
variable {K : Type} [DecidableEq K] {P : Program} {w : World} {kt : TypeId} {kf : K → Value} {V : K → Prop}

theorem run_findAsking (O : KeyOk P w kt kf V) {k : K} (hk : V k) : ∀ (L : List (K × Bool × Nat)) (n : Nat), (∀ x ∈ L, V x.1) →
    (Instr.findAsking kt (kf k) (L.map (mkE kf)) n).run P w = .ok (findL L k n) w
  | [], n, _ => by simp [Instr.findAsking, findL]
  | x :: xs, n, h => by
    have ih := run_findAsking O hk xs (n + 1) (fun y hy => h y (by simp [hy]))
    simp only [List.map_cons, Instr.findAsking, Sem.run_bind, mkE, O.eq k x.1 hk (h x (by simp)), Result.andThen_ok]
    by_cases e : k = x.1
    · simp [e, findL]
    · have e' : ¬ x.1 = k := fun h => e h.symm
      simp only [e, decide_false, Bool.false_eq_true, if_false, findL, e']
      exact ih

theorem run_findKeyL (O : KeyOk P w kt kf V) {k : K} (hk : V k) (L : List (K × Bool × Nat)) (h : ∀ x ∈ L, V x.1) :
    (Instr.findKey kt (kf k) (L.map (mkE kf))).run P w = .ok (findL L k 0) w := by
  obtain ⟨d, hd, hn⟩ := O.desc
  have ha := run_findAsking O hk L 0 h
  unfold Instr.findKey
  simp only [Sem.run_bind, run_underlying hd, Result.andThen_ok]
  cases L with
  | nil => simp [Instr.findNow, findL]
  | cons x xs =>
    simp only [List.map_cons, Instr.findNow]
    rw [show Instr.sameNow d (kf k) (mkE kf x).key = none from hn _ _]
    exact ha

theorem findL_none {k : K} : ∀ (L : List (K × Bool × Nat)) (n : Nat), findL L k n = none → ∀ x ∈ L, x.1 ≠ k
  | [], _, _ => by simp
  | x :: xs, n, h => by
    unfold findL at h
    split at h
    · cases h
    · rename_i hne
      intro y hy
      rcases List.mem_cons.1 hy with rfl | hy
      · exact hne
      · exact findL_none xs (n + 1) h y hy

theorem findL_some {k : K} : ∀ (L : List (K × Bool × Nat)) (n m : Nat) (v : Value), findL L k n = some (m, v) → ∃ x, n ≤ m ∧ L[m - n]? = some x ∧ x.1 = k ∧ v = .bool x.2.1 ∧ v = .bool (look L k)
  | [], _, _, _, h => by cases h
  | x :: xs, n, m, v, h => by
    unfold findL at h
    split at h
    · rename_i e
      cases h
      exact ⟨x, Nat.le_refl _, by simp, e, rfl, by simp [look, e]⟩
    · rename_i hne
      obtain ⟨y, h1, h2, h3, h4, h5⟩ := findL_some xs (n + 1) m v h
      refine ⟨y, by omega, ?_, h3, h4, by simp [look, hne, h5]⟩
      rw [show m - n = (m - (n + 1)) + 1 by omega]
      simpa using h2

theorem look_none {k : K} : ∀ (L : List (K × Bool × Nat)), (∀ x ∈ L, x.1 ≠ k) → look L k = false
  | [], _ => rfl
  | x :: xs, h => by
    unfold look
    rw [if_neg (h x (by simp))]
    exact look_none xs (fun y hy => h y (by simp [hy]))

theorem look_snoc (L : List (K × Bool × Nat)) (k : K) (v : Bool) (c : Nat) (h : ∀ x ∈ L, x.1 ≠ k) (k' : K) : look (L ++ [(k, v, c)]) k' = if k' = k then v else look L k' := by
  induction L with
  | nil =>
    simp only [List.nil_append, look]
    by_cases e : k' = k
    · simp [e]
    · have : ¬ k = k' := fun h => e h.symm
      simp [e, this]
  | cons x xs ih =>
    have ih := ih (fun y hy => h y (by simp [hy]))
    simp only [List.cons_append, look]
    by_cases e : x.1 = k'
    · have : ¬ k' = k := fun e2 => h x (by simp) (e.trans e2)
      simp [e, this]
    · simp [e, ih]

theorem look_set {k : K} (v : Bool) : ∀ (L : List (K × Bool × Nat)) (n m : Nat) (u : Value), findL L k n = some (m, u) → ∀ k', look (L.modify (m - n) (fun x => (k, v, x.2.2))) k' = if k' = k then v else look L k'
  | [], _, _, _, h => by cases h
  | x :: xs, n, m, u, h => by
    unfold findL at h
    split at h
    · rename_i e
      cases h
      intro k'
      simp only [Nat.sub_self, List.modify_zero_cons, look]
      by_cases e2 : k' = k
      · simp [e2]
      · have : ¬ k = k' := fun h => e2 h.symm
        simp [e2, e, this]
    · rename_i hne
      obtain ⟨y, h1, _⟩ := findL_some xs (n + 1) m u h
      intro k'
      have ih := look_set v xs (n + 1) m u h k'
      rw [show m - n = (m - (n + 1)) + 1 by omega]
      simp only [List.modify_succ_cons, look]
      by_cases e : x.1 = k'
      · have : ¬ k' = k := fun e2 => hne (e.trans e2)
        simp [e, this]
      · simp [e, ih]

end

/-- BLOCK M IS A MAP of n entries, whose look-up at 'kf k' is 'f k'. -/
def MapHas {K : Type} [DecidableEq K] (w : World) (M : Nat) (kf : K → Value) (V : K → Prop) (n : Nat) (f : K → Bool) : Prop :=
  ∃ (L : List (K × Bool × Nat)) (clock : Nat), w.heap[M]? = some (.map (L.map (mkE kf)).toArray clock) ∧ (∀ x ∈ L, V x.1) ∧ L.length = n ∧ ∀ k, look L k = f k

section
variable {K : Type} [DecidableEq K] {P : Program} {w : World} {kt et t : TypeId} {kf : K → Value} {V : K → Prop} {M n : Nat} {f : K → Bool}

theorem MapHas.of_block {w' : World} (h : MapHas w M kf V n f) (e : w'.heap[M]? = w.heap[M]?) : MapHas w' M kf V n f := by
  obtain ⟨L, c, h1, h2⟩ := h
  exact ⟨L, c, e.trans h1, h2⟩

theorem MapHas.run_lookup (h : MapHas w M kf V n f) (O : KeyOk P w kt kf V) (ht : P.underlying t = some (.map kt et)) (hz : (zeroValue et).run P w = .ok (.bool false) w) {k : K} (hk : V k) :
    (Instr.lookup t (.map (some M)) (kf k) false).run P w = .ok (.bool (f k)) w := by
  obtain ⟨L, c, hb, hv, _, hf⟩ := h
  have hF := run_findKeyL O hk L hv
  have hC := O.check k (L.map (mkE kf)).toArray.isEmpty hk
  simp only [Instr.lookup, Sem.run_bind, run_underlying ht, Result.andThen_ok, MapKept.run_getObj_map hb, Sem.run_pure, hC, hF]
  cases hL : findL L k 0 with
  | none =>
    have := look_none L (findL_none L 0 hL)
    simp [hz, ← hf, this]
  | some r =>
    obtain ⟨m, v⟩ := r
    obtain ⟨x, _, _, _, _, h5⟩ := findL_some L 0 m v hL
    simp [h5, hf]

theorem MapHas.run_update (h : MapHas w M kf V n f) (O : KeyOk P w kt kf V) (ht : P.underlying t = some (.map kt et)) {k : K} (hk : V k) (v : Bool) :
    ∃ o n', (Instr.mapUpdate t (.map (some M)) (kf k) (.bool v)).run P w = .ok () { w with heap := w.heap.setIfInBounds M o } ∧
      MapHas { w with heap := w.heap.setIfInBounds M o } M kf V n' (fun k' => if k' = k then v else f k') := by
  obtain ⟨L, c, hb, hv, _, hf⟩ := h
  have hF := run_findKeyL O hk L hv
  have hC := O.check k false hk
  have hM : M < w.heap.size := by
    rcases Nat.lt_or_ge M w.heap.size with h | h
    · exact h
    · rw [Array.getElem?_eq_none h] at hb; cases hb
  cases hL : findL L k 0 with
  | none =>
    refine ⟨.map ((L ++ [(k, v, c)]).map (mkE kf)).toArray (c + 1), L.length + 1, ?_, L ++ [(k, v, c)], c + 1, by simp [hM], ?_, by simp, ?_⟩
    · rw [hL] at hF
      simp [Instr.mapUpdate, run_underlying ht, MapKept.run_getObj_map hb, hC, hF, MapKept.run_setObj_map _ hb, Result.andThen, mkE]
    · intro x hx
      rcases List.mem_append.1 hx with hx | hx
      · exact hv x hx
      · simp at hx; subst hx; exact hk
    · intro k'
      rw [look_snoc L k v c (findL_none L 0 hL) k', hf]
  | some r =>
    obtain ⟨m, u⟩ := r
    obtain ⟨x, _, hx, hxk, _, _⟩ := findL_some L 0 m u hL
    refine ⟨.map ((L.modify m (fun x => (k, v, x.2.2))).map (mkE kf)).toArray c, (L.modify m (fun x => (k, v, x.2.2))).length, ?_, _, c, by simp [hM], ?_, rfl, ?_⟩
    · rw [hL] at hF
      have hx' : L[m]? = some x := by simpa using hx
      have hst : Instr.sameBits 10000 (kf x.1) (kf k) = true := by rw [hxk]; exact O.stays k
      simp only [Instr.mapUpdate, Sem.run_bind, run_underlying ht, Result.andThen_ok, MapKept.run_getObj_map hb, hC, hF]
      have e1 : (((L.map (mkE kf)).toArray[m]?).map (·.key)).getD (kf k) = kf x.1 := by simp [hx', mkE]
      rw [e1]
      simp only [Instr.keyThatStays, hst, if_true, Sem.run_pure, Result.andThen_ok, MapKept.run_setObj_map _ hb]
      rw [← map_modify (kf := kf) v L m]
      congr 4
      simp
    · exact valid_modify hk v L m hv
    · intro k'
      have := look_set v L 0 m u hL k'
      rw [Nat.sub_zero] at this
      rw [this, hf]
end
end Go.Proofs.Ybulkbini
