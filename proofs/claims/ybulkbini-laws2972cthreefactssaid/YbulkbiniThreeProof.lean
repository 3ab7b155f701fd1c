/-
  'Rows.LawS2972CThreeFactsSaid', PROVED. The frame is the given shell's; the walk is ours.
-/
import Derived.Test.YbulkbiniKeys
import Derived.Test.YbulkbiniValueLaw
import Derived.WalkKit
import Derived.ProofKit
import Derived.OpenShut
import Derived.ShutString
namespace Go.Proofs.Ybulkbini.lawS2972CThreeFacts
open Go.ChangeShapes Go.WideShapes Go.ChangeAt Go.RowKit
open Go.ChangeMaps (open_string shut_string)

theorem fact_true (r x y : Int) (w : World) : Calls Yba.prog 11 #[.agg #[.int .i64 r, .int .i64 x, .int .i64 y], .int .i64 r, .int .i64 x, .int .i64 y] w fun e w' => e = .returned (.bool true) ∧ Below w.heap.size w w' := by
  go_enter Yba.func11, Yba.ntmps11
  go_wp2
  go_ret
  exact ⟨rfl, (Below.refl _ _).alloc (Nat.le_refl _) _⟩

set_option maxHeartbeats 1000000 in
set_option maxRecDepth 100000 in
theorem walk (a0 a1 a2 : Int) (a3 a4 : Bool) (w : World) :
    Calls Yba.prog 5 #[.int .i64 a0, .int .i64 a1, .int .i64 a2, .bool a3, .bool a4] w fun e w' => e = .returned (.bool true) ∧ Below w.heap.size w w' := by
  go_enter Yba.func5, Yba.ntmps5
  go_upto_region 2 with fail
  go_wp2_with (first
    | (refine wpList_build rfl 92 _ rfl [(9, .int .i64 a0), (10, .int .i64 a2), (4, .bool a3), (6, .bool a4)] rfl _ (build4 a0 a2 a3 a4 _) ?_)
    | (refine wpList_build rfl 92 _ rfl [(9, .int .i64 a1), (7, .bool a3)] rfl _ (build2 a1 a3 _) ?_)
    | (refine wpList_store_new rfl 92 _ _ rfl _ _ _ rfl (by simp) rfl 29 i92 rfl (vz_size _ _ _ _ _) (vz_one _ _ _ _ _) ?_)
    | (refine wpList_load_block rfl 92 _ rfl (w.heap.size + 1) rfl _ (start_two w _ _ _).1 _ Yba.underlying92 rfl 29 i92 (vz_size _ _ _ _ _) ?_)
    | (refine wpList_load_block rfl 92 _ rfl (w.heap.size + 1 + 1) rfl _ (start_two w _ _ _).2.1 _ Yba.underlying92 rfl 29 i92 (vz_size _ _ _ _ _) ?_))
  have hst := start_two w (Obj.cells #[Value.pointer none, Value.pointer none, Value.pointer none, Value.slice none 0 0, Value.map none, Value.pointer none, Value.int IntKind.i64 0, Value.pointer none, Value.pointer none, Value.pointer none, Value.pointer none, Value.pointer none, Value.slice none 0 0, Value.bool false, Value.map none, Value.slice none 0 0, Value.map none, Value.map none, Value.map none] 80) (vz a0 a2 a3 a4 false) (vz a1 0 false false a3)
  generalize ((w.alloc (Obj.cells #[Value.pointer none, Value.pointer none, Value.pointer none, Value.slice none 0 0, Value.map none, Value.pointer none, Value.int IntKind.i64 0, Value.pointer none, Value.pointer none, Value.pointer none, Value.pointer none, Value.pointer none, Value.slice none 0 0, Value.bool false, Value.map none, Value.slice none 0 0, Value.map none, Value.map none, Value.map none] 80)).alloc (Obj.cells (vz a0 a2 a3 a4 false) 92)).alloc (Obj.cells (vz a1 0 false false a3) 92) = W at *
  obtain ⟨_, _, hb0⟩ := hst
  obtain ⟨lo, hi, e1, e2⟩ : ∃ lo hi : Int, (if a1 < a0 then a1 else a0) = lo ∧ (if a0 < a1 then a1 else a0) = hi := ⟨_, _, rfl, rfl⟩
  refine (equal_vz _ a0 a2 a3 a4 false a1 0 false false a3 lo hi e1 e2 W).mono ?_
  rintro e w1 ⟨g, rfl, hg, hgb, hb1⟩
  have hbw : Below w.heap.size w w1 := hb0.trans (hb1.mono hb0.size)
  have hgl := block_lt hgb
  obtain ⟨⟨p0, p1, p2⟩, ⟨p3, p4, p5⟩, ⟨p6, p7, p8⟩⟩ := nine hgb
  clear hb0 hb1 hg hgb
  by_cases hlt : a1 < a0
  · have h1 : lo = a1 := by rw [← e1, if_pos hlt]
    have h2 : hi = a0 := by rw [← e2, if_neg (by omega)]
    subst h1 h2
    clear e1 e2
    go_wp2_with fail
    refine (fact_true _ _ _ w1).mono ?_
    rintro e w2 ⟨rfl, hb2⟩
    have hbw2 := hbw.trans (hb2.mono hbw.size)
    have q3 := (hb2.cell (p := ⟨g, 3, none⟩) hgl).trans p3
    have q4 := (hb2.cell (p := ⟨g, 4, none⟩) hgl).trans p4
    have q5 := (hb2.cell (p := ⟨g, 5, none⟩) hgl).trans p5
    have q6 := (hb2.cell (p := ⟨g, 6, none⟩) hgl).trans p6
    have q7 := (hb2.cell (p := ⟨g, 7, none⟩) hgl).trans p7
    have q8 := (hb2.cell (p := ⟨g, 8, none⟩) hgl).trans p8
    have hgl2 : g < w2.heap.size := Nat.lt_of_lt_of_le hgl hb2.size
    clear p0 p1 p2 p3 p4 p5 p6 p7 p8 hb2 hbw hgl
    go_wp2_with fail
    refine (fact_true _ _ _ w2).mono ?_
    rintro e w3 ⟨rfl, hb3⟩
    have hbw3 := hbw2.trans (hb3.mono hbw2.size)
    have r6 := (hb3.cell (p := ⟨g, 6, none⟩) hgl2).trans q6
    have r7 := (hb3.cell (p := ⟨g, 7, none⟩) hgl2).trans q7
    have r8 := (hb3.cell (p := ⟨g, 8, none⟩) hgl2).trans q8
    clear q3 q4 q5 q6 q7 q8 hb3 hbw2
    go_wp2_with fail
    refine (fact_true _ _ _ w3).mono ?_
    rintro e w4 ⟨rfl, hb4⟩
    have hbw4 := hbw3.trans (hb4.mono hbw3.size)
    clear r6 r7 r8 hb4 hbw3
    go_wp2
    go_ret
    exact ⟨rfl, hbw4⟩
  · have h1 : lo = a0 := by rw [← e1, if_neg hlt]
    have h2 : hi = a1 := by rw [← e2]; split <;> omega
    subst h1 h2
    clear e1 e2
    go_wp2_with fail
    refine (fact_true _ _ _ w1).mono ?_
    rintro e w2 ⟨rfl, hb2⟩
    have hbw2 := hbw.trans (hb2.mono hbw.size)
    have q3 := (hb2.cell (p := ⟨g, 3, none⟩) hgl).trans p3
    have q4 := (hb2.cell (p := ⟨g, 4, none⟩) hgl).trans p4
    have q5 := (hb2.cell (p := ⟨g, 5, none⟩) hgl).trans p5
    have q6 := (hb2.cell (p := ⟨g, 6, none⟩) hgl).trans p6
    have q7 := (hb2.cell (p := ⟨g, 7, none⟩) hgl).trans p7
    have q8 := (hb2.cell (p := ⟨g, 8, none⟩) hgl).trans p8
    have hgl2 : g < w2.heap.size := Nat.lt_of_lt_of_le hgl hb2.size
    clear p0 p1 p2 p3 p4 p5 p6 p7 p8 hb2 hbw hgl
    go_wp2_with fail
    refine (fact_true _ _ _ w2).mono ?_
    rintro e w3 ⟨rfl, hb3⟩
    have hbw3 := hbw2.trans (hb3.mono hbw2.size)
    have r6 := (hb3.cell (p := ⟨g, 6, none⟩) hgl2).trans q6
    have r7 := (hb3.cell (p := ⟨g, 7, none⟩) hgl2).trans q7
    have r8 := (hb3.cell (p := ⟨g, 8, none⟩) hgl2).trans q8
    clear q3 q4 q5 q6 q7 q8 hb3 hbw2
    go_wp2_with fail
    refine (fact_true _ _ _ w3).mono ?_
    rintro e w4 ⟨rfl, hb4⟩
    have hbw4 := hbw3.trans (hb4.mono hbw3.size)
    clear r6 r7 r8 hb4 hbw3
    go_wp2
    go_ret
    exact ⟨rfl, hbw4⟩

/-! ### THE ROW's STEP -/
set_option maxRecDepth 100000 in
theorem lifted (os : Os) (started : os.Started) (H : Type) (enc : TypeId × Value → H) :
    ReturnsInHanded {} Yba.checked os 5 .any (Rows.lawS2972CThreeFactsSpec.pre6 enc Yba.prog Yba.f5 Rows.lawS2972CThreeFactsRow.domain false) (Rows.lawS2972CThreeFactsSpec.post enc Yba.prog Yba.f5 false true false false) := by
  refine returnsInHanded_of_change (C := Yba.checked) own started (by kernel_rfl) Yba.func5
    (ChangeSpec.witness6 (enc := enc) (C := Yba.checked) false ⟨#[], #[.int .i64 0, .int .i64 0, .int .i64 0, .bool false, .bool false], []⟩ 8 (by kernel_rfl) (by kernel_rfl) (by kernel_rfl) (by kernel_rfl)) ?_
  intro W base args ds gs before hval0 hW hcnd _
  have hval : ∀ (j : Nat) t v, Yba.f5.params[j]? = some t → args[j]? = some v → Value.okWide Yba.prog W .any base t v := hval0
  have hW' := hW
  obtain ⟨p, q, hA0, hV, rfl, hfz, hnd⟩ := hW
  have hA : DataW.TrodAll enc Yba.prog W 0 (fun _ => true) true Yba.f5.params.toList args.toList ds p := hA0
  rw [Yba.params5] at hA hval
  obtain ⟨v0, vs0, d0, ds0, p0, q0, hargs, rfl, rfl, h0, r0⟩ := trodAll_cons hA
  obtain ⟨v1, vs1, d1, ds1, p1, q1, rfl, rfl, rfl, h1, r1⟩ := trodAll_cons r0
  obtain ⟨v2, vs2, d2, ds2, p2, q2, rfl, rfl, rfl, h2, r2⟩ := trodAll_cons r1
  obtain ⟨v3, vs3, d3, ds3, p3, q3, rfl, rfl, rfl, h3, r3⟩ := trodAll_cons r2
  obtain ⟨v4, vs4, d4, ds4, p4, q4, rfl, rfl, rfl, h4, r4⟩ := trodAll_cons r3
  obtain ⟨rfl, rfl, rfl⟩ := trodAll_nil r4
  obtain rfl : args = #[v0, v1, v2, v3, v4] := by cases args; simp_all
  obtain ⟨rfl, rfl⟩ := trodVars_none hV
  obtain ⟨a0, rfl, rfl, rfl, w0⟩ := open_int Yba.underlying3 (hval 0 3 v0 rfl rfl) h0
  obtain ⟨a1, rfl, rfl, rfl, w1⟩ := open_int Yba.underlying3 (hval 1 3 v1 rfl rfl) h1
  obtain ⟨a2, rfl, rfl, rfl, w2⟩ := open_int Yba.underlying3 (hval 2 3 v2 rfl rfl) h2
  obtain ⟨a3, rfl, rfl, rfl⟩ := open_bool Yba.underlying4 (hval 3 4 v3 rfl rfl) h3
  obtain ⟨a4, rfl, rfl, rfl⟩ := open_bool Yba.underlying4 (hval 4 4 v4 rfl rfl) h4
  clear hA0 hval0
  refine (walk a0 a1 a2 a3 a4 W).mono fun e W' ⟨he, bel⟩ => ?_
  subst he
  exact ⟨_, rfl, _, _, _, [], _, [], hW', trodAll_mk1 (shut_bool Yba.underlying4 _), (trodAll_cons_mk (shut_int Yba.underlying3 w0) (trodAll_cons_mk (shut_int Yba.underlying3 w1) (trodAll_cons_mk (shut_int Yba.underlying3 w2) (trodAll_cons_mk (shut_bool Yba.underlying4 _) (trodAll_cons_mk (shut_bool Yba.underlying4 _) trodAll_mk0))))), rfl, bel.frame _, fun h => by cases h⟩

theorem over : Rows.lawS2972CThreeFactsRow.holds Yba.pinned (OpenSpec.ofChange Rows.lawS2972CThreeFactsSpec) :=
  OpenClaim.holds_of_wide 5 Yba.f5 rfl rfl rfl rfl rfl rfl rfl ⟨rfl, rfl, rfl, rfl, rfl⟩ rfl rfl rfl rfl rfl (by kernel_rfl) Yba.func5 (by kernel_rfl)
    (of_decide_eq_true (by kernel_rfl)) (by unfold Func.isWrapper; first | (rw [if_pos (by decide +kernel)]; kernel_rfl) | (rw [if_neg (by decide +kernel)]; exact ⟨rfl, rfl⟩))
    (fun os started H enc _ => lifted os started H enc)

theorem proved : Rows.LawS2972CThreeFactsSaid := over
end Go.Proofs.Ybulkbini.lawS2972CThreeFacts
