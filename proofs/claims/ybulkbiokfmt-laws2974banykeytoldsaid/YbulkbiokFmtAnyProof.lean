/-
  'Rows.LawS2974BAnyKeyToldSaid', PROVED: the told card of LawS2974BAnyKey. Where the key is no field's name the road passes fmt.Sprintf; the law does not look at that text, whatever it is.
-/
import Derived.Test.YbulkbiokFmtCards
import Derived.Test.YbulkbiokFmtAnyWalk
import Derived.ProofKit
import Derived.OpenShut
import Derived.ShutString
import Derived.Stop.JoinedAt
import Derived.Stop.Texts
import Derived.Stop.JoinedTold
import Derived.SevenToldRow
namespace Go.Proofs.YbulkbiokFmt.lawS2974BAnyKey
open Go.ChangeShapes Go.WideShapes Go.ChangeAt Go.RowKit
open Go.ChangeMaps (open_string shut_string)
open Go.Extern.Stop Go.Stop Go.Extern

theorem own : ownKnob Ybaf.prog.godebug = none := by kernel_rfl
theorem laidOut : laidOutB Ybaf.prog = true := by kernel_rfl

set_option maxRecDepth 100000 in
theorem lifted (os : Os) (started : os.Started) (H : Type) (enc : TypeId × Value → H) :
    ReturnsInTold none {} Ybaf.checked os 4 .any Input.okWide ((OpenSpec.ofChange Rows.lawS2974BAnyKeySpec).preRow enc Ybaf.prog Ybaf.f4 [] false []) (fun F => ((OpenSpec.ofChange Rows.lawS2974BAnyKeySpec).at F).post enc Ybaf.prog Ybaf.f4 false true false false) (aloneAtReturn Ybaf.prog) nothingAlways := by
  refine returnsInTold_of_row (C := Ybaf.checked) (s := OpenSpec.ofChange Rows.lawS2974BAnyKeySpec) (by kernel_rfl) own started (by kernel_rfl) Ybaf.func4
    (OpenSpec.witness_stopped (enc := enc) (C := Ybaf.checked) false ⟨#[], #[.string ⟨#[]⟩, .string ⟨#[]⟩], []⟩ 8 (by kernel_rfl) (by kernel_rfl) (by kernel_rfl) (by kernel_rfl)) ?_
  intro F W base args ds gs before _ hF hval0 hW _ _ hsz _ _
  have hval : ∀ (j : Nat) t v, Ybaf.f4.params[j]? = some t → args[j]? = some v → Value.okWide Ybaf.prog W .any base t v := hval0
  have hW' := hW
  obtain ⟨p, q, hA0, hV, rfl, hfz, hnd⟩ := hW
  have hA : DataW.TrodAll enc Ybaf.prog W 0 (fun _ => true) true Ybaf.f4.params.toList args.toList ds p := hA0
  rw [Ybaf.params4] at hA hval
  obtain ⟨v0, vs0, d0, ds0, p0, q0, hargs, rfl, rfl, h0, r0⟩ := trodAll_cons hA
  obtain ⟨v1, vs1, d1, ds1, p1, q1, rfl, rfl, rfl, h1, r1⟩ := trodAll_cons r0
  obtain ⟨rfl, rfl, rfl⟩ := trodAll_nil r1
  obtain rfl : args = #[v0, v1] := by cases args; simp_all
  obtain ⟨rfl, rfl⟩ := trodVars_none hV
  obtain ⟨path, rfl, rfl, rfl, wpath⟩ := open_string Ybaf.underlying9 (hval 0 9 v0 rfl rfl) h0
  obtain ⟨key, rfl, rfl, rfl, wkey⟩ := open_string Ybaf.underlying9 (hval 1 9 v1 rfl rfl) h1
  clear hA0 hval0
  refine (anykey_walk F.told path key W hF).mono fun e W' ⟨he, bel⟩ => ?_
  subst he
  exact ⟨_, rfl, _, _, _, [], _, [], hW', trodAll_mk1 (shut_bool Ybaf.underlying4 _), (trodAll_cons_mk (shut_string Ybaf.underlying9 wpath) (trodAll_cons_mk (shut_string Ybaf.underlying9 wkey) trodAll_mk0)), rfl, bel.frame _, fun h => by cases h⟩

theorem stops : Ybaf.pinned.checked.prog.stops = ["fmt.Sprintf"] := by kernel_rfl
theorem stopKnobs : Ybaf.pinned.checked.prog.stopKnobs = [] := by kernel_rfl
theorem quiet (os : Os) : Stop.quiet Ybaf.pinned.checked.prog os := by
  intro k hk
  rw [stopKnobs] at hk
  cases hk

theorem proved : Rows.LawS2974BAnyKeyToldSaid :=
  Claim7.holds_of_told_any 4 Ybaf.f4 "fmt.Sprintf" [] [] _ _ _ (by kernel_rfl) rfl rfl rfl laidOut (by kernel_rfl) rfl ⟨rfl, rfl, rfl, rfl, rfl, rfl, rfl⟩ rfl rfl (by kernel_rfl) (by kernel_rfl) Ybaf.func4 (by kernel_rfl)
    (of_decide_eq_true (by kernel_rfl)) (of_decide_eq_true (by kernel_rfl)) stops.symm rfl stopKnobs.symm (by kernel_rfl)
    (by kernel_rfl) (by kernel_rfl) (by kernel_rfl) (by kernel_rfl) (by kernel_rfl) (by kernel_rfl) (by kernel_rfl) (by kernel_rfl) (by kernel_rfl) rfl (by kernel_rfl) rfl rfl
    rfl rfl
    rfl (by kernel_rfl) (by kernel_rfl) (by kernel_rfl) (by decide) (by kernel_rfl)
    (OpenClaim.moreEntering_of (by kernel_rfl) (by kernel_rfl) (by kernel_rfl) (by kernel_rfl) (by kernel_rfl) (by kernel_rfl) (by kernel_rfl) (by kernel_rfl) (by kernel_rfl) (by kernel_rfl))
    ⟨_, WideRow.started_initial, quiet _⟩
    (fun os started _ H enc _ => lifted os started H enc)
end Go.Proofs.YbulkbiokFmt.lawS2974BAnyKey
