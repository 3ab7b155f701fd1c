/-
  'Rows.LawS2974ARawSaid', PROVED. The frame is the given shell's; the walk is ours.
-/
import Derived.Test.YbulkbiokRawWalk
import Derived.Test.YbulkbiokOpen
namespace Go.Proofs.Ybulkbiok.lawS2974ARaw
open Go.ChangeShapes Go.WideShapes Go.ChangeAt Go.RowKit Go.Deep

theorem caps {H : Type} {enc : TypeId × Value → H} {W : World} {base fuel : Nat} {sp : Nat → Bool} {held : Bool} {a : Option Addr} {len cap : Nat} {x : DataW H × List MemPlace}
    (h : DataW.trod enc Yba.prog W base sp held fuel 22 [.slice a len cap] = some x) : len ≤ cap ∧ cap ≤ maxLen := by
  rcases open_slice1 Yba.underlying22 c5 h with ⟨hcs, _⟩ | ⟨b, l, c, m, n, V, D, Pl, hcs, _, hl, hm, _⟩
  · simp at hcs
    obtain ⟨rfl, rfl, rfl⟩ := hcs
    exact ⟨Nat.le_refl _, by unfold maxLen; omega⟩
  · simp at hcs
    obtain ⟨rfl, rfl, rfl⟩ := hcs
    exact ⟨hl, hm⟩

theorem walk (a : Option Addr) (len cap : Nat) (hlc : len ≤ cap) (hcm : cap ≤ maxLen) (D : List Nat) (cnt rd m : Int) (w : World) (hc0 : 0 ≤ cnt) (hc1 : cnt ≤ 255) (hr0 : 0 ≤ rd) (hr1 : rd ≤ 255) (h : IsB w a len D) :
    Calls Yba.prog 3 #[.slice a len cap, .int .u8 cnt, .int .u8 rd, .int .i64 m] w fun e w' => e = .returned (.bool true) ∧ Below w.heap.size w w' := by
  by_cases hl : 4096 < len
  · exact raw_long a len cap cnt rd m w hl
  · exact raw_walk a len cap hlc hcm D cnt rd m w (by omega) hc0 hc1 hr0 hr1 h

set_option maxRecDepth 100000 in
theorem lifted (os : Os) (started : os.Started) (H : Type) (enc : TypeId × Value → H) :
    ReturnsInHanded {} Yba.checked os 3 .any (Rows.lawS2974ARawSpec.pre6 enc Yba.prog Yba.f3 Rows.lawS2974ARawRow.domain false) (Rows.lawS2974ARawSpec.post enc Yba.prog Yba.f3 false true false false) := by
  refine returnsInHanded_of_change (C := Yba.checked) own started (by kernel_rfl) Yba.func3
    (ChangeSpec.witness6 (enc := enc) (C := Yba.checked) false ⟨#[], #[.slice none 0 0, .int .u8 0, .int .u8 0, .int .i64 0], []⟩ 8 (by kernel_rfl) (by kernel_rfl) (by kernel_rfl) (by kernel_rfl)) ?_
  intro W base args ds gs before hval0 hW hcnd _
  have hval : ∀ (j : Nat) t v, Yba.f3.params[j]? = some t → args[j]? = some v → Value.okWide Yba.prog W .any base t v := hval0
  have hW' := hW
  obtain ⟨p, q, hA0, hV, rfl, hfz, hnd⟩ := hW
  have hA : DataW.TrodAll enc Yba.prog W 0 (fun _ => true) true Yba.f3.params.toList args.toList ds p := hA0
  rw [Yba.params3] at hA hval
  obtain ⟨v0, vs0, d0, ds0, p0, q0, hargs, rfl, rfl, h0, r0⟩ := trodAll_cons hA
  obtain ⟨v1, vs1, d1, ds1, p1, q1, rfl, rfl, rfl, h1, r1⟩ := trodAll_cons r0
  obtain ⟨v2, vs2, d2, ds2, p2, q2, rfl, rfl, rfl, h2, r2⟩ := trodAll_cons r1
  obtain ⟨v3, vs3, d3, ds3, p3, q3, rfl, rfl, rfl, h3, r3⟩ := trodAll_cons r2
  obtain ⟨rfl, rfl, rfl⟩ := trodAll_nil r3
  obtain rfl : args = #[v0, v1, v2, v3] := by cases args; simp_all
  obtain ⟨rfl, rfl⟩ := trodVars_none hV
  obtain ⟨a0, len0, cap0, rfl⟩ := okWide_slice Yba.underlying22 (hval 0 22 v0 rfl rfl)
  have k0 := h0
  have lt0 : ∀ x ∈ p0, x.block < W.heap.size := by obtain ⟨m, hm⟩ := k0; exact DataW.trod_lt m _ _ _ hm
  obtain ⟨D, w0, hcap⟩ : ∃ D, IsB W a0 len0 D ∧ len0 ≤ cap0 ∧ cap0 ≤ maxLen := by
    obtain ⟨fuel, hf⟩ := h0
    have hf' : DataW.trod enc Yba.prog W 0 (fun _ => true) true fuel 22 [.slice a0 len0 cap0] = some (d0, p0) := by simpa [Value.cells] using hf
    obtain ⟨a', l', c', D, e, hD⟩ := open_bytes hf'
    cases e
    exact ⟨D, hD, caps hf'⟩
  obtain ⟨a1, rfl, rfl, rfl, w1⟩ := open_int Yba.underlying5 (hval 1 5 v1 rfl rfl) h1
  obtain ⟨a2, rfl, rfl, rfl, w2⟩ := open_int Yba.underlying5 (hval 2 5 v2 rfl rfl) h2
  obtain ⟨a3, rfl, rfl, rfl, w3⟩ := open_int Yba.underlying3 (hval 3 3 v3 rfl rfl) h3
  clear hA0 hval0
  have hb1 := bounds_u8 w1
  have hb2 := bounds_u8 w2
  refine (walk a0 len0 cap0 hcap.1 hcap.2 D a1 a2 a3 W hb1.1 hb1.2 hb2.1 hb2.2 w0).mono fun e W' ⟨he, bel⟩ => ?_
  subst he
  exact ⟨_, rfl, _, _, _, [], _, [], hW', trodAll_mk1 (shut_bool Yba.underlying4 _), (trodAll_cons_mk (Below.trod laidOut (by kernel_rfl) (of_decide_eq_true (by kernel_rfl)) k0 bel lt0) (trodAll_cons_mk (shut_int Yba.underlying5 w1) (trodAll_cons_mk (shut_int Yba.underlying5 w2) (trodAll_cons_mk (shut_int Yba.underlying3 w3) trodAll_mk0)))), rfl, bel.frame _, fun h => by cases h⟩

theorem over : Rows.lawS2974ARawRow.holds Yba.pinned (OpenSpec.ofChange Rows.lawS2974ARawSpec) :=
  OpenClaim.holds_of_wide 3 Yba.f3 rfl rfl rfl rfl rfl rfl rfl ⟨rfl, rfl, rfl, rfl, rfl⟩ rfl rfl rfl rfl rfl (by kernel_rfl) Yba.func3 (by kernel_rfl)
    (of_decide_eq_true (by kernel_rfl)) (by unfold Func.isWrapper; first | (rw [if_pos (by decide +kernel)]; kernel_rfl) | (rw [if_neg (by decide +kernel)]; exact ⟨rfl, rfl⟩))
    (fun os started H enc _ => lifted os started H enc)

theorem proved : Rows.LawS2974ARawSaid := over
end Go.Proofs.Ybulkbiok.lawS2974ARaw
