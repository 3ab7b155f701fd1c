/-
  'Rows.LawS2974ABuiltSaid', PROVED.
-/
import Derived.Test.YbulkbiokBuiltWalk
import Derived.Test.YbulkbiokOpen
namespace Go.Proofs.Ybulkbiok.lawS2974ABuilt
open Go.ChangeShapes Go.WideShapes Go.ChangeAt Go.RowKit Go.Deep

theorem c35 : Yba.prog.cellsOf 35 = 4 := by kernel_rfl

section
variable {H : Type} {enc : TypeId × Value → H} {W : World} {base fuel : Nat} {sp : Nat → Bool} {held : Bool} {a : Option Addr} {len cap : Nat} {x : DataW H × List MemPlace}

/-- One message's four cells. -/
def MsgAt (W : World) (b : Addr) (i : Nat) (e : List Nat × Nat × Nat × Nat) : Prop :=
  (∃ pa pc, W.cell? (b.add (i * 4)) = some (.slice pa e.1.length pc) ∧ IsB W pa e.1.length e.1) ∧ W.cell? (b.add (i * 4 + 1)) = some (.int .u8 (e.2.1 : Int)) ∧ W.cell? (b.add (i * 4 + 2)) = some (.int .u8 (e.2.2.1 : Int)) ∧
    W.cell? (b.add (i * 4 + 3)) = some (.int .u8 (e.2.2.2 : Int)) ∧ e.2.1 < 256 ∧ e.2.2.1 < 256 ∧ e.2.2.2 < 256

theorem byte_cell {v : Value} {k : Nat} {y : DataW H × List MemPlace} (h : DataW.trod enc Yba.prog W base sp held k 5 [v] = some y) : ∃ n : Nat, v = .int .u8 (n : Int) ∧ n < 256 := by
  obtain ⟨z, e, _, wz⟩ := DataW.trod_int Yba.underlying5 h
  have hb := bounds_u8 wz
  simp at e
  exact ⟨z.toNat, by rw [e, Int.toNat_of_nonneg hb.1], by omega⟩

theorem msg_cells {cs : List Value} {b : Addr} {i k : Nat} {y0 y1 y2 y3 : DataW H × List MemPlace} (hlen : cs.length = 4) (hcell : ∀ j, j < 4 → W.cell? ((b.add (i * 4)).add j) = cs[j]?)
    (t0 : DataW.trod enc Yba.prog W base sp held k 22 ((cs.drop 0).take (Yba.prog.cellsOf 22)) = some y0) (t1 : DataW.trod enc Yba.prog W base sp held k 5 ((cs.drop 1).take (Yba.prog.cellsOf 5)) = some y1)
    (t2 : DataW.trod enc Yba.prog W base sp held k 5 ((cs.drop 2).take (Yba.prog.cellsOf 5)) = some y2) (t3 : DataW.trod enc Yba.prog W base sp held k 5 ((cs.drop 3).take (Yba.prog.cellsOf 5)) = some y3) :
    ∃ e, MsgAt W b i e := by
  rw [c22] at t0
  rw [c5] at t1 t2 t3
  match cs, hlen with
  | [v0, v1, v2, v3], _ =>
    simp at t0 t1 t2 t3
    obtain ⟨pa, pl, pc, D, rfl, hD⟩ := open_bytes t0
    obtain ⟨n1, rfl, l1⟩ := byte_cell t1
    obtain ⟨n2, rfl, l2⟩ := byte_cell t2
    obtain ⟨n3, rfl, l3⟩ := byte_cell t3
    have g0 := hcell 0 (by omega)
    have g1 := hcell 1 (by omega)
    have g2 := hcell 2 (by omega)
    have g3 := hcell 3 (by omega)
    rw [add_add] at g0 g1 g2 g3
    have hl := hD.1
    subst hl
    exact ⟨(D, n1, n2, n3), ⟨pa, pc, by simpa using g0, hD⟩, by simpa using g1, by simpa using g2, by simpa using g3, l1, l2, l3⟩

set_option maxRecDepth 100000 in
theorem open_msgs (h : DataW.trod enc Yba.prog W base sp held fuel 33 [.slice a len cap] = some x) : ∃ Ms, IsMsgs W a len Ms := by
  rcases open_slice Yba.underlying33 h with ⟨hcs, _⟩ | ⟨b, l, c, m, n, D, Pl, hcs, _, hl, hm, hmm, _, hx⟩
  · simp at hcs
    obtain ⟨rfl, rfl, rfl⟩ := hcs
    exact ⟨[], rfl, by unfold maxLen; omega, fun h => absurd h (Nat.lt_irrefl _), by simp⟩
  · simp at hcs
    obtain ⟨rfl, rfl, rfl⟩ := hcs
    have hlm : len ≤ m := by rw [hmm]; split <;> omega
    obtain ⟨z, hz⟩ := choose_lt (α := List Nat × Nat × Nat × Nat) (n := len) (p := fun i z => MsgAt W b i z) (fun i hi => by
      obtain ⟨cs, h1, h2⟩ := hx i (by omega)
      rw [c35] at h1
      obtain ⟨_, hlen, hcell⟩ := World.cells?_some h1
      obtain ⟨xs, k, _, _, _, hxl, hf⟩ := DataW.trod_struct Yba.underlying35 h2
      obtain ⟨y0, hy0⟩ : ∃ y, xs[0]? = some y := ⟨_, List.getElem?_eq_getElem (by simp at hxl; omega)⟩
      obtain ⟨y1, hy1⟩ : ∃ y, xs[1]? = some y := ⟨_, List.getElem?_eq_getElem (by simp at hxl; omega)⟩
      obtain ⟨y2, hy2⟩ : ∃ y, xs[2]? = some y := ⟨_, List.getElem?_eq_getElem (by simp at hxl; omega)⟩
      obtain ⟨y3, hy3⟩ : ∃ y, xs[3]? = some y := ⟨_, List.getElem?_eq_getElem (by simp at hxl; omega)⟩
      have t0 := hf 0 _ rfl
      have t1 := hf 1 _ rfl
      have t2 := hf 2 _ rfl
      have t3 := hf 3 _ rfl
      rw [hy0] at t0
      rw [hy1] at t1
      rw [hy2] at t2
      rw [hy3] at t3
      exact msg_cells hlen hcell t0 t1 t2 t3)
    refine ⟨(List.range len).map z, by simp, by omega, fun hpos => ?_, ?_⟩
    · obtain ⟨b, off, spot⟩ := b
      obtain ⟨⟨_, _, hq1, _⟩, _⟩ := hz 0 hpos
      have hspot : spot = none := by simpa [Addr.add] using World.cell?_spot hq1
      subst hspot
      refine ⟨b, off, rfl, ?_, fun i e he => ?_⟩
      · have := cell_lt hq1
        simpa [Addr.add] using this
      · rw [List.getElem?_map] at he
        obtain ⟨j, hj, rfl⟩ := Option.map_eq_some_iff.1 he
        have hi : i < len := by
          rcases Nat.lt_or_ge i len with h' | h'
          · exact h'
          · rw [List.getElem?_eq_none (by simpa using h')] at hj; cases hj
        rw [List.getElem?_range hi] at hj
        cases hj
        obtain ⟨⟨pa, pc, q0, q00⟩, q1, q2, q3, _⟩ := hz i hi
        rw [add_plain] at q0 q1 q2 q3
        exact ⟨⟨pa, pc, q0, q00⟩, q1, q2, q3⟩
    · intro y hy
      obtain ⟨i, hi, rfl⟩ := List.mem_map.1 hy
      exact (hz i (List.mem_range.1 hi)).2.2.2.2
end

theorem walk (ma : Option Addr) (ml mc : Nat) (Ms : List (List Nat × Nat × Nat × Nat)) (ta : Option Addr) (tl tc : Nat) (T : List Nat) (rd md : Int) (w : World)
    (hr0 : 0 ≤ rd) (hr1 : rd ≤ 255) (hm0 : 0 ≤ md) (hm1 : md ≤ 255) (hM : IsMsgs w ma ml Ms) (hT : IsB w ta tl T) :
    Calls Yba.prog 4 #[.slice ma ml mc, .slice ta tl tc, .int .u8 rd, .int .u8 md] w fun e w' => e = .returned (.bool true) ∧ Below w.heap.size w w' := by
  by_cases h : 300 < ml ∨ 4096 < tl
  · exact built_long ma ml mc ta tl tc rd md w h
  · exact built_walk ma ml mc Ms ta tl tc T rd md w (by omega) (by omega) hr0 hr1 hm0 hm1 hM hT

set_option maxRecDepth 100000 in
theorem lifted (os : Os) (started : os.Started) (H : Type) (enc : TypeId × Value → H) :
    ReturnsInHanded {} Yba.checked os 4 .any (Rows.lawS2974ABuiltSpec.pre6 enc Yba.prog Yba.f4 Rows.lawS2974ABuiltRow.domain false) (Rows.lawS2974ABuiltSpec.post enc Yba.prog Yba.f4 false true false false) := by
  refine returnsInHanded_of_change (C := Yba.checked) own started (by kernel_rfl) Yba.func4
    (ChangeSpec.witness6 (enc := enc) (C := Yba.checked) false ⟨#[], #[.slice none 0 0, .slice none 0 0, .int .u8 0, .int .u8 0], []⟩ 8 (by kernel_rfl) (by kernel_rfl) (by kernel_rfl) (by kernel_rfl)) ?_
  intro W base args ds gs before hval0 hW hcnd _
  have hval : ∀ (j : Nat) t v, Yba.f4.params[j]? = some t → args[j]? = some v → Value.okWide Yba.prog W .any base t v := hval0
  have hW' := hW
  obtain ⟨p, q, hA0, hV, rfl, hfz, hnd⟩ := hW
  have hA : DataW.TrodAll enc Yba.prog W 0 (fun _ => true) true Yba.f4.params.toList args.toList ds p := hA0
  rw [Yba.params4] at hA hval
  obtain ⟨v0, vs0, d0, ds0, p0, q0, hargs, rfl, rfl, h0, r0⟩ := trodAll_cons hA
  obtain ⟨v1, vs1, d1, ds1, p1, q1, rfl, rfl, rfl, h1, r1⟩ := trodAll_cons r0
  obtain ⟨v2, vs2, d2, ds2, p2, q2, rfl, rfl, rfl, h2, r2⟩ := trodAll_cons r1
  obtain ⟨v3, vs3, d3, ds3, p3, q3, rfl, rfl, rfl, h3, r3⟩ := trodAll_cons r2
  obtain ⟨rfl, rfl, rfl⟩ := trodAll_nil r3
  obtain rfl : args = #[v0, v1, v2, v3] := by cases args; simp_all
  obtain ⟨rfl, rfl⟩ := trodVars_none hV
  obtain ⟨a0, len0, cap0, rfl⟩ := okWide_slice Yba.underlying33 (hval 0 33 v0 rfl rfl)
  have k0 := h0
  have lt0 : ∀ x ∈ p0, x.block < W.heap.size := by obtain ⟨m, hm⟩ := k0; exact DataW.trod_lt m _ _ _ hm
  obtain ⟨Ms, w0⟩ : ∃ Ms, IsMsgs W a0 len0 Ms := by
    obtain ⟨fuel, hf⟩ := h0
    exact open_msgs (by simpa [Value.cells] using hf)
  obtain ⟨a1, len1, cap1, rfl⟩ := okWide_slice Yba.underlying22 (hval 1 22 v1 rfl rfl)
  have k1 := h1
  have lt1 : ∀ x ∈ p1, x.block < W.heap.size := by obtain ⟨m, hm⟩ := k1; exact DataW.trod_lt m _ _ _ hm
  obtain ⟨T, w1⟩ : ∃ T, IsB W a1 len1 T := by
    obtain ⟨fuel, hf⟩ := h1
    obtain ⟨a', l', c', D, e, hD⟩ := open_bytes (v := .slice a1 len1 cap1) (by simpa [Value.cells] using hf)
    cases e
    exact ⟨D, hD⟩
  obtain ⟨a2, rfl, rfl, rfl, w2⟩ := open_int Yba.underlying5 (hval 2 5 v2 rfl rfl) h2
  obtain ⟨a3, rfl, rfl, rfl, w3⟩ := open_int Yba.underlying5 (hval 3 5 v3 rfl rfl) h3
  clear hA0 hval0
  have hb2 := bounds_u8 w2
  have hb3 := bounds_u8 w3
  refine (walk a0 len0 cap0 Ms a1 len1 cap1 T a2 a3 W hb2.1 hb2.2 hb3.1 hb3.2 w0 w1).mono fun e W' ⟨he, bel⟩ => ?_
  subst he
  exact ⟨_, rfl, _, _, _, [], _, [], hW', trodAll_mk1 (shut_bool Yba.underlying4 _), (trodAll_cons_mk (Below.trod laidOut (by kernel_rfl) (of_decide_eq_true (by kernel_rfl)) k0 bel lt0) (trodAll_cons_mk (Below.trod laidOut (by kernel_rfl) (of_decide_eq_true (by kernel_rfl)) k1 bel lt1) (trodAll_cons_mk (shut_int Yba.underlying5 w2) (trodAll_cons_mk (shut_int Yba.underlying5 w3) trodAll_mk0)))), rfl, bel.frame _, fun h => by cases h⟩

theorem over : Rows.lawS2974ABuiltRow.holds Yba.pinned (OpenSpec.ofChange Rows.lawS2974ABuiltSpec) :=
  OpenClaim.holds_of_wide 4 Yba.f4 rfl rfl rfl rfl rfl rfl rfl ⟨rfl, rfl, rfl, rfl, rfl⟩ rfl rfl rfl rfl rfl (by kernel_rfl) Yba.func4 (by kernel_rfl)
    (of_decide_eq_true (by kernel_rfl)) (by unfold Func.isWrapper; first | (rw [if_pos (by decide +kernel)]; kernel_rfl) | (rw [if_neg (by decide +kernel)]; exact ⟨rfl, rfl⟩))
    (fun os started H enc _ => lifted os started H enc)

theorem proved : Rows.LawS2974ABuiltSaid := over
end Go.Proofs.Ybulkbiok.lawS2974ABuilt
