/-
  'Rows.LawS2972CSwapSaid', PROVED. The frame is the given shell's; the walk is ours.
-/
import Derived.Test.YbulkbiniKeys
import Derived.Test.YbulkbiniValueLaw
import Derived.WalkKit
import Derived.ProofKit
import Derived.OpenShut
import Derived.ShutString
namespace Go.Proofs.Ybulkbini.lawS2972CSwap
open Go.ChangeShapes Go.WideShapes Go.ChangeAt Go.RowKit
open Go.ChangeMaps (open_string shut_string)

set_option maxHeartbeats 1000000 in
set_option maxRecDepth 100000 in
theorem walk (a0 : Int) (a1 : Int) (w : World) :
    Calls Yba.prog 6 #[.int .i64 a0, .int .i64 a1] w fun e w' => e = .returned (.bool true) ∧ Below w.heap.size w w' := by
  go_enter Yba.func6, Yba.ntmps6
  go_upto_region 2 with fail
  go_wp2_with (first
    | (refine wpList_build rfl 92 _ rfl [(9, .int .i64 a0)] rfl _ (build1 a0 _) ?_)
    | (refine wpList_build rfl 92 _ rfl [(9, .int .i64 a1)] rfl _ (build1 a1 _) ?_)
    | (refine wpList_store_new rfl 92 _ _ rfl _ _ _ rfl (by simp) rfl 29 i92 rfl (vz_size _ _ _ _ _) (vz_one _ _ _ _ _) ?_)
    | (refine wpList_load_block rfl 92 _ rfl (w.heap.size + 1) rfl _ (start_two w _ _ _).1 _ Yba.underlying92 rfl 29 i92 (vz_size _ _ _ _ _) ?_)
    | (refine wpList_load_block rfl 92 _ rfl (w.heap.size + 1 + 1) rfl _ (start_two w _ _ _).2.1 _ Yba.underlying92 rfl 29 i92 (vz_size _ _ _ _ _) ?_))
  have hst := start_two w (Obj.cells #[Value.pointer none, Value.pointer none, Value.pointer none, Value.slice none 0 0, Value.map none, Value.pointer none, Value.int IntKind.i64 0, Value.pointer none, Value.pointer none, Value.pointer none, Value.pointer none, Value.pointer none, Value.slice none 0 0, Value.bool false, Value.map none, Value.slice none 0 0, Value.map none, Value.map none, Value.map none] 80) (vz a0 0 false false false) (vz a1 0 false false false)
  generalize ((w.alloc (Obj.cells #[Value.pointer none, Value.pointer none, Value.pointer none, Value.slice none 0 0, Value.map none, Value.pointer none, Value.int IntKind.i64 0, Value.pointer none, Value.pointer none, Value.pointer none, Value.pointer none, Value.pointer none, Value.slice none 0 0, Value.bool false, Value.map none, Value.slice none 0 0, Value.map none, Value.map none, Value.map none] 80)).alloc (Obj.cells (vz a0 0 false false false) 92)).alloc (Obj.cells (vz a1 0 false false false) 92) = W at *
  obtain ⟨hX, hY, hb0⟩ := hst
  obtain ⟨lo, hi, e1, e2, e3, e4⟩ : ∃ lo hi : Int, (if a1 < a0 then a1 else a0) = lo ∧ (if a0 < a1 then a1 else a0) = hi ∧ (if a0 < a1 then a0 else a1) = lo ∧ (if a1 < a0 then a0 else a1) = hi := by
    refine ⟨_, _, rfl, rfl, ?_, ?_⟩ <;> (split <;> split <;> omega)
  refine (equal_vz _ a0 0 false false false a1 0 false false false lo hi e1 e2 W).mono ?_
  rintro e w1 ⟨g, rfl, hg, hgb, hb1⟩
  have hX1 := (hb1.block _ (block_lt hX)).trans hX
  have hY1 := (hb1.block _ (block_lt hY)).trans hY
  have HE : Hid ((if a0 < a1 then a0 else a1) = lo ∧ (if a1 < a0 then a0 else a1) = hi) := ⟨e3, e4⟩
  clear e1 e2 e3 e4 hX hY
  go_wp2_with (first
    | (refine wpList_load_block rfl 92 _ rfl (w.heap.size + 1) rfl _ hX1 _ Yba.underlying92 rfl 29 i92 (vz_size _ _ _ _ _) ?_)
    | (refine wpList_load_block rfl 92 _ rfl (w.heap.size + 1 + 1) rfl _ hY1 _ Yba.underlying92 rfl 29 i92 (vz_size _ _ _ _ _) ?_))
  refine (equal_vz _ a1 0 false false false a0 0 false false false lo hi HE.out.1 HE.out.2 w1).mono ?_
  rintro e w2 ⟨g2, rfl, hg2, hgb2, hb2⟩
  have hgb1 := (hb2.block _ (block_lt hgb)).trans hgb
  obtain ⟨⟨p0, p1, p2⟩, ⟨p3, p4, p5⟩, ⟨p6, p7, p8⟩⟩ := nine hgb1
  obtain ⟨⟨q0, q1, q2⟩, ⟨q3, q4, q5⟩, ⟨q6, q7, q8⟩⟩ := nine hgb2
  have hbw : Below w.heap.size w w2 := (hb0.trans (hb1.mono hb0.size)).trans (hb2.mono (Nat.le_trans hb0.size hb1.size))
  clear HE hb0 hb1 hb2 hX1 hY1 hgb hgb1 hgb2 hg hg2
  go_wp2
  go_quiet (fail)
  go_wp2
  go_ret
  exact ⟨rfl, below_drewN hbw _⟩

/-! ### THE ROW's STEP -/
set_option maxRecDepth 100000 in
theorem lifted (os : Os) (started : os.Started) (H : Type) (enc : TypeId × Value → H) :
    ReturnsInHanded {} Yba.checked os 6 .any (Rows.lawS2972CSwapSpec.pre6 enc Yba.prog Yba.f6 Rows.lawS2972CSwapRow.domain false) (Rows.lawS2972CSwapSpec.post enc Yba.prog Yba.f6 false true false false) := by
  refine returnsInHanded_of_change (C := Yba.checked) own started (by kernel_rfl) Yba.func6
    (ChangeSpec.witness6 (enc := enc) (C := Yba.checked) false ⟨#[], #[.int .i64 0, .int .i64 0], []⟩ 8 (by kernel_rfl) (by kernel_rfl) (by kernel_rfl) (by kernel_rfl)) ?_
  intro W base args ds gs before hval0 hW hcnd _
  have hval : ∀ (j : Nat) t v, Yba.f6.params[j]? = some t → args[j]? = some v → Value.okWide Yba.prog W .any base t v := hval0
  have hW' := hW
  obtain ⟨p, q, hA0, hV, rfl, hfz, hnd⟩ := hW
  have hA : DataW.TrodAll enc Yba.prog W 0 (fun _ => true) true Yba.f6.params.toList args.toList ds p := hA0
  rw [Yba.params6] at hA hval
  obtain ⟨v0, vs0, d0, ds0, p0, q0, hargs, rfl, rfl, h0, r0⟩ := trodAll_cons hA
  obtain ⟨v1, vs1, d1, ds1, p1, q1, rfl, rfl, rfl, h1, r1⟩ := trodAll_cons r0
  obtain ⟨rfl, rfl, rfl⟩ := trodAll_nil r1
  obtain rfl : args = #[v0, v1] := by cases args; simp_all
  obtain ⟨rfl, rfl⟩ := trodVars_none hV
  obtain ⟨a0, rfl, rfl, rfl, w0⟩ := open_int Yba.underlying3 (hval 0 3 v0 rfl rfl) h0
  obtain ⟨a1, rfl, rfl, rfl, w1⟩ := open_int Yba.underlying3 (hval 1 3 v1 rfl rfl) h1
  clear hA0 hval0
  refine (walk a0 a1 W).mono fun e W' ⟨he, bel⟩ => ?_
  subst he
  exact ⟨_, rfl, _, _, _, [], _, [], hW', trodAll_mk1 (shut_bool Yba.underlying4 _), (trodAll_cons_mk (shut_int Yba.underlying3 w0) (trodAll_cons_mk (shut_int Yba.underlying3 w1) trodAll_mk0)), rfl, bel.frame _, fun h => by cases h⟩

theorem over : Rows.lawS2972CSwapRow.holds Yba.pinned (OpenSpec.ofChange Rows.lawS2972CSwapSpec) :=
  OpenClaim.holds_of_wide 6 Yba.f6 rfl rfl rfl rfl rfl rfl rfl ⟨rfl, rfl, rfl, rfl, rfl⟩ rfl rfl rfl rfl rfl (by kernel_rfl) Yba.func6 (by kernel_rfl)
    (of_decide_eq_true (by kernel_rfl)) (by unfold Func.isWrapper; first | (rw [if_pos (by decide +kernel)]; kernel_rfl) | (rw [if_neg (by decide +kernel)]; exact ⟨rfl, rfl⟩))
    (fun os started H enc _ => lifted os started H enc)

theorem proved : Rows.LawS2972CSwapSaid := over
end Go.Proofs.Ybulkbini.lawS2972CSwap
