/-
  'Rows.LawS2972AReachesSaid', PROVED.
-/
import Derived.Test.YbulkbiniReachesWalk
import Derived.Test.YbulkbiniOpen
namespace Go.Proofs.Ybulkbini.lawS2972AReaches
open Go.ChangeShapes Go.WideShapes Go.ChangeAt Go.RowKit Go.Deep

theorem c62 : Yba.prog.cellsOf 62 = 2 := by kernel_rfl

set_option maxRecDepth 100000 in
theorem long (ea : Option Addr) (el ec : Nat) (sa : Option Addr) (sl sc : Nat) (sel : Int) (d : Bool) (pa : Option Addr) (pl pc : Nat) (ra : Option Addr) (rl rc : Nat) (w : World) (h : 1024 < el ∨ 1024 < pl ∨ 1024 < sl ∨ 1024 < rl) :
    Calls Yba.prog 4 #[.slice ea el ec, .slice sa sl sc, .int .u8 sel, .bool d, .slice pa pl pc, .slice ra rl rc] w fun e w' => e = .returned (.bool true) ∧ Below w.heap.size w w' := by
  by_cases h1 : 1024 < el
  · go_enter Yba.func4, Yba.ntmps4
    go_wp2
    go_ret
    exact ⟨rfl, Below.refl _ _⟩
  by_cases h2 : 1024 < pl
  · go_enter Yba.func4, Yba.ntmps4
    go_wp2
    go_ret
    exact ⟨rfl, Below.refl _ _⟩
  by_cases h3 : 1024 < sl
  · go_enter Yba.func4, Yba.ntmps4
    go_wp2
    go_ret
    exact ⟨rfl, Below.refl _ _⟩
  have h4 : 1024 < rl := by omega
  go_enter Yba.func4, Yba.ntmps4
  go_wp2
  go_ret
  exact ⟨rfl, Below.refl _ _⟩

section
variable {H : Type} {enc : TypeId × Value → H} {W : World} {base fuel : Nat} {sp : Nat → Bool} {held : Bool} {a : Option Addr} {len cap : Nat} {x : DataW H × List MemPlace}

theorem state_cells {cs : List Value} {b : Addr} {i k : Nat} {y0 y1 : DataW H × List MemPlace} (hlen : cs.length = 2) (hcell : ∀ j, j < 2 → W.cell? ((b.add (i * 2)).add j) = cs[j]?)
    (t0 : DataW.trod enc Yba.prog W base sp held k 5 ((cs.drop 0).take (Yba.prog.cellsOf 5)) = some y0) (t1 : DataW.trod enc Yba.prog W base sp held k 4 ((cs.drop 1).take (Yba.prog.cellsOf 4)) = some y1) :
    ∃ z : Int × Bool, W.cell? (b.add (i * 2)) = some (.int .u8 z.1) ∧ W.cell? (b.add (i * 2 + 1)) = some (.bool z.2) ∧ 0 ≤ z.1 ∧ z.1 ≤ 255 := by
  rw [c5] at t0
  rw [c4] at t1
  match cs, hlen with
  | [v0, v1], _ =>
    simp at t0 t1
    obtain ⟨n0, e0, _, w0⟩ := DataW.trod_int Yba.underlying5 t0
    obtain ⟨n1, e1, _⟩ := DataW.trod_bool Yba.underlying4 t1
    simp at e0 e1
    subst e0 e1
    have g0 := hcell 0 (by omega)
    have g1 := hcell 1 (by omega)
    rw [add_add] at g0 g1
    have hb := bounds_u8 w0
    exact ⟨(n0, n1), by simpa using g0, by simpa using g1, hb.1, hb.2⟩

set_option maxRecDepth 100000 in
theorem open_states (h : DataW.trod enc Yba.prog W base sp held fuel 46 [.slice a len cap] = some x) : ∃ S, IsStates W a len S := by
  rcases open_slice Yba.underlying46 h with ⟨hcs, _⟩ | ⟨b, l, c, m, n, D, Pl, hcs, _, hl, hm, hmm, _, hx⟩
  · simp at hcs
    obtain ⟨rfl, rfl, rfl⟩ := hcs
    exact ⟨[], rfl, by unfold maxLen; omega, fun h => absurd h (Nat.lt_irrefl _), by simp⟩
  · simp at hcs
    obtain ⟨rfl, rfl, rfl⟩ := hcs
    have hlm : len ≤ m := by rw [hmm]; split <;> omega
    obtain ⟨z, hz⟩ := choose_lt (α := Int × Bool) (n := len) (p := fun i z => W.cell? (b.add (i * 2)) = some (.int .u8 z.1) ∧ W.cell? (b.add (i * 2 + 1)) = some (.bool z.2) ∧ 0 ≤ z.1 ∧ z.1 ≤ 255) (fun i hi => by
      obtain ⟨cs, h1, h2⟩ := hx i (by omega)
      rw [c62] at h1
      obtain ⟨_, hlen, hcell⟩ := World.cells?_some h1
      obtain ⟨y0, y1, k, _, _, t0, t1⟩ := trod_struct2 Yba.underlying62 h2
      exact state_cells hlen hcell t0 t1)
    refine ⟨(List.range len).map z, by simp, by omega, fun hpos => ?_, ?_⟩
    · obtain ⟨b, off, spot⟩ := b
      have hspot : spot = none := by simpa [Addr.add] using World.cell?_spot (hz 0 hpos).1
      subst hspot
      refine ⟨b, off, rfl, ?_, fun i e he => ?_⟩
      · have := cell_lt (hz 0 hpos).1
        simpa [Addr.add] using this
      · rw [List.getElem?_map] at he
        obtain ⟨j, hj, rfl⟩ := Option.map_eq_some_iff.1 he
        have hi : i < len := by
          rcases Nat.lt_or_ge i len with h' | h'
          · exact h'
          · rw [List.getElem?_eq_none (by simpa using h')] at hj; cases hj
        rw [List.getElem?_range hi] at hj
        cases hj
        obtain ⟨q1, q2, _⟩ := hz i hi
        rw [add_plain] at q1 q2
        exact ⟨q1, q2⟩
    · intro y hy
      obtain ⟨i, hi, rfl⟩ := List.mem_map.1 hy
      exact (hz i (List.mem_range.1 hi)).2.2
end

theorem walk (ea : Option Addr) (el ec : Nat) (E : List (Int × Int × Bool)) (sa : Option Addr) (sl sc : Nat) (S : List (Int × Bool)) (sel : Int) (d : Bool) (pa : Option Addr) (pl pc : Nat) (ps : List Int) (ra : Option Addr) (rl rc : Nat) (R : List Int)
    (w : World) (hs0 : 0 ≤ sel) (hs1 : sel ≤ 255)
    (he : IsEnts w ea el E) (hs : IsStates w sa sl S) (hp : IsInts .i64 w pa pl ps) (hr : IsInts .u8 w ra rl R) :
    Calls Yba.prog 4 #[.slice ea el ec, .slice sa sl sc, .int .u8 sel, .bool d, .slice pa pl pc, .slice ra rl rc] w fun e w' => e = .returned (.bool true) ∧ Below w.heap.size w w' := by
  by_cases h : 1024 < el ∨ 1024 < pl ∨ 1024 < sl ∨ 1024 < rl
  · exact long ea el ec sa sl sc sel d pa pl pc ra rl rc w h
  · exact reaches_walk ea el ec E sa sl sc S sel d pa pl pc ps ra rl rc R w (by omega) (by omega) (by omega) (by omega) hs0 hs1 he hs hp hr

set_option maxRecDepth 100000 in
theorem lifted (os : Os) (started : os.Started) (H : Type) (enc : TypeId × Value → H) :
    ReturnsInHanded {} Yba.checked os 4 .any (Rows.lawS2972AReachesSpec.pre6 enc Yba.prog Yba.f4 Rows.lawS2972AReachesRow.domain false) (Rows.lawS2972AReachesSpec.post enc Yba.prog Yba.f4 false true false false) := by
  refine returnsInHanded_of_change (C := Yba.checked) own started (by kernel_rfl) Yba.func4
    (ChangeSpec.witness6 (enc := enc) (C := Yba.checked) false ⟨#[], #[.slice none 0 0, .slice none 0 0, .int .u8 0, .bool false, .slice none 0 0, .slice none 0 0], []⟩ 8 (by kernel_rfl) (by kernel_rfl) (by kernel_rfl) (by kernel_rfl)) ?_
  intro W base args ds gs before hval0 hW hcnd _
  have hval : ∀ (j : Nat) t v, Yba.f4.params[j]? = some t → args[j]? = some v → Value.okWide Yba.prog W .any base t v := hval0
  have hW' := hW
  obtain ⟨p, q, hA0, hV, rfl, hfz, hnd⟩ := hW
  have hA : DataW.TrodAll enc Yba.prog W 0 (fun _ => true) true Yba.f4.params.toList args.toList ds p := hA0
  rw [Yba.params4] at hA hval
  obtain ⟨v0, vs0, d0, ds0, p0, q0, hargs, rfl, rfl, h0, r0⟩ := trodAll_cons hA
  obtain ⟨v1, vs1, d1, ds1, p1, q1, rfl, rfl, rfl, h1, r1⟩ := trodAll_cons r0
  obtain ⟨v2, vs2, d2, ds2, p2, q2, rfl, rfl, rfl, h2, r2⟩ := trodAll_cons r1
  obtain ⟨v3, vs3, d3, ds3, p3, q3, rfl, rfl, rfl, h3, r3⟩ := trodAll_cons r2
  obtain ⟨v4, vs4, d4, ds4, p4, q4, rfl, rfl, rfl, h4, r4⟩ := trodAll_cons r3
  obtain ⟨v5, vs5, d5, ds5, p5, q5, rfl, rfl, rfl, h5, r5⟩ := trodAll_cons r4
  obtain ⟨rfl, rfl, rfl⟩ := trodAll_nil r5
  obtain rfl : args = #[v0, v1, v2, v3, v4, v5] := by cases args; simp_all
  obtain ⟨rfl, rfl⟩ := trodVars_none hV
  obtain ⟨a0, len0, cap0, rfl⟩ := okWide_slice Yba.underlying22 (hval 0 22 v0 rfl rfl)
  have k0 := h0
  have lt0 : ∀ x ∈ p0, x.block < W.heap.size := by obtain ⟨m, hm⟩ := k0; exact DataW.trod_lt m _ _ _ hm
  obtain ⟨E, w0⟩ : ∃ E, IsEnts W a0 len0 E := by
    obtain ⟨fuel, hf⟩ := h0
    exact open_ents (by simpa [Value.cells] using hf)
  obtain ⟨a1, len1, cap1, rfl⟩ := okWide_slice Yba.underlying46 (hval 1 46 v1 rfl rfl)
  have k1 := h1
  have lt1 : ∀ x ∈ p1, x.block < W.heap.size := by obtain ⟨m, hm⟩ := k1; exact DataW.trod_lt m _ _ _ hm
  obtain ⟨S, w1⟩ : ∃ S, IsStates W a1 len1 S := by
    obtain ⟨fuel, hf⟩ := h1
    exact open_states (by simpa [Value.cells] using hf)
  obtain ⟨a2, rfl, rfl, rfl, w2⟩ := open_int Yba.underlying5 (hval 2 5 v2 rfl rfl) h2
  obtain ⟨a3, rfl, rfl, rfl⟩ := open_bool Yba.underlying4 (hval 3 4 v3 rfl rfl) h3
  obtain ⟨a4, len4, cap4, rfl⟩ := okWide_slice Yba.underlying23 (hval 4 23 v4 rfl rfl)
  have k4 := h4
  have lt4 : ∀ x ∈ p4, x.block < W.heap.size := by obtain ⟨m, hm⟩ := k4; exact DataW.trod_lt m _ _ _ hm
  obtain ⟨ps, w4⟩ : ∃ zs, IsInts .i64 W a4 len4 zs := by
    obtain ⟨fuel, hf⟩ := h4
    exact open_int_row Yba.underlying23 Yba.underlying3 c3 (by simpa [Value.cells] using hf)
  obtain ⟨a5, len5, cap5, rfl⟩ := okWide_slice Yba.underlying47 (hval 5 47 v5 rfl rfl)
  have k5 := h5
  have lt5 : ∀ x ∈ p5, x.block < W.heap.size := by obtain ⟨m, hm⟩ := k5; exact DataW.trod_lt m _ _ _ hm
  obtain ⟨rs, w5⟩ : ∃ zs, IsInts .u8 W a5 len5 zs := by
    obtain ⟨fuel, hf⟩ := h5
    exact open_int_row Yba.underlying47 Yba.underlying5 c5 (by simpa [Value.cells] using hf)
  clear hA0 hval0
  have hb2 := bounds_u8 w2
  refine (walk a0 len0 cap0 E a1 len1 cap1 S a2 a3 a4 len4 cap4 ps a5 len5 cap5 rs W hb2.1 hb2.2 w0 w1 w4 w5).mono fun e W' ⟨he, bel⟩ => ?_
  subst he
  exact ⟨_, rfl, _, _, _, [], _, [], hW', trodAll_mk1 (shut_bool Yba.underlying4 _), (trodAll_cons_mk (Below.trod laidOut (by kernel_rfl) (of_decide_eq_true (by kernel_rfl)) k0 bel lt0) (trodAll_cons_mk (Below.trod laidOut (by kernel_rfl) (of_decide_eq_true (by kernel_rfl)) k1 bel lt1) (trodAll_cons_mk (shut_int Yba.underlying5 w2) (trodAll_cons_mk (shut_bool Yba.underlying4 _) (trodAll_cons_mk (Below.trod laidOut (by kernel_rfl) (of_decide_eq_true (by kernel_rfl)) k4 bel lt4) (trodAll_cons_mk (Below.trod laidOut (by kernel_rfl) (of_decide_eq_true (by kernel_rfl)) k5 bel lt5) trodAll_mk0)))))), rfl, bel.frame _, fun h => by cases h⟩

theorem over : Rows.lawS2972AReachesRow.holds Yba.pinned (OpenSpec.ofChange Rows.lawS2972AReachesSpec) :=
  OpenClaim.holds_of_wide 4 Yba.f4 rfl rfl rfl rfl rfl rfl rfl ⟨rfl, rfl, rfl, rfl, rfl⟩ rfl rfl rfl rfl rfl (by kernel_rfl) Yba.func4 (by kernel_rfl)
    (of_decide_eq_true (by kernel_rfl)) (by unfold Func.isWrapper; first | (rw [if_pos (by decide +kernel)]; kernel_rfl) | (rw [if_neg (by decide +kernel)]; exact ⟨rfl, rfl⟩))
    (fun os started H enc _ => lifted os started H enc)

theorem proved : Rows.LawS2972AReachesSaid := over
end Go.Proofs.Ybulkbini.lawS2972AReaches
