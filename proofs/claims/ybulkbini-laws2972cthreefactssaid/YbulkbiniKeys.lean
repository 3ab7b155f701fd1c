/-
  THE KEYS OF THE PROGRAM's TWO MAPS: 'param{fn, index}' (type 38) and a pointer to a variable's declaration (type 48), their pointers leading to blocks of the call's own.
-/
import Derived.Test.YbulkbiniRows
import Derived.Test.YbulkbiniMapLaw
import Derived.LaidEqlPtr
namespace Go.Proofs.Ybulkbini
open Go Go.RowKit

theorem own : ownKnob Yba.prog.godebug = none := by kernel_rfl
theorem laidOut : laidOutB Yba.prog = true := by kernel_rfl

/-- The three blocks from B on are rows of cells that were never frozen. -/
def Three (w : World) (B : Nat) : Prop := ∀ j, j < 3 → ∃ cs t, w.heap[B + j]? = some (.cells cs t (0, 0))

theorem Three.of_block {w w' : World} {B : Nat} (h : Three w B) (e : ∀ j, j < 3 → w'.heap[B + j]? = w.heap[B + j]?) : Three w' B := fun j hj => by
  obtain ⟨cs, t, hh⟩ := h j hj
  exact ⟨cs, t, (e j hj).trans hh⟩

def fkey (B : Nat) (k : Nat × Int) : Value := .agg #[.pointer (some ⟨B + k.1, 0, none⟩), .int .i64 k.2]
def vkey (B : Nat) (k : Nat) : Value := .pointer (some ⟨B + k, 0, none⟩)
def fV (k : Nat × Int) : Prop := k.1 < 3
def vV (k : Nat) : Prop := k < 3

theorem i28 : (Yba.prog.info? 28).map (fun i => (i.size)) = some 2 := by kernel_rfl
theorem i24 : (Yba.prog.info? 24).map (fun i => (i.size)) = some 1 := by kernel_rfl
theorem i3 : (Yba.prog.info? 3).map (fun i => (i.size)) = some 1 := by kernel_rfl
theorem s38 : Yba.prog.stoodInHeld 38 = false := by kernel_rfl

theorem ptr_eq {w : World} {B : Nat} (h : Three w B) {tp te : TypeId} {ti : TypeInfo} (hp : Yba.prog.underlying tp = some (.pointer te)) (hte : Yba.prog.info? te = some ti) (hsz : ti.size ≠ 0) (d : Nat) {j j' : Nat} (hj : j < 3) (hj' : j' < 3) :
    (Op.equalIn (d + 1) tp (.pointer (some ⟨B + j, 0, none⟩)) (.pointer (some ⟨B + j', 0, none⟩))).run Yba.prog w = .ok (decide (j = j')) w := by
  by_cases e : j = j'
  · subst e
    simp [Op.equalIn, run_underlying hp, sizeOf, typeInfo, hte, run_sameAddr_same]
  · obtain ⟨c1, t1, h1⟩ := h j hj
    obtain ⟨c2, t2, h2⟩ := h j' hj'
    have hne : (⟨B + j, 0, none⟩ : Addr) ≠ ⟨B + j', 0, none⟩ := by
      intro h
      injection h with h
      omega
    simp [Op.equalIn, run_underlying hp, sizeOf, typeInfo, hte, hsz, run_sameAddr_other w hne h1 h2, e]

theorem some_of_map {α β : Type} {o : Option α} {g : α → β} {b : β} (h : o.map g = some b) : ∃ a, o = some a ∧ g a = b := by
  cases o with
  | none => cases h
  | some a => exact ⟨a, rfl, by simpa using h⟩

theorem part24 {w : World} {cs : Array Value} {off : Nat} {v : Value} (h : cs[off]? = some v) : (part 24 cs off).run Yba.prog w = .ok v w := by
  simp [part, isAgg, run_underlying Yba.underlying24, h]
theorem part3 {w : World} {cs : Array Value} {off : Nat} {v : Value} (h : cs[off]? = some v) : (part 3 cs off).run Yba.prog w = .ok v w := by
  simp [part, isAgg, run_underlying Yba.underlying3, h]
theorem check24 {w : World} (em : Bool) (n : Nat) (a : Option Addr) : (Instr.checkKey em (n + 1) 24 (.pointer a)).run Yba.prog w = .ok () w := by
  simp [Instr.checkKey, run_underlying Yba.underlying24]
theorem check48 {w : World} (em : Bool) (n : Nat) (a : Option Addr) : (Instr.checkKey em (n + 1) 48 (.pointer a)).run Yba.prog w = .ok () w := by
  simp [Instr.checkKey, run_underlying Yba.underlying48]
theorem check3 {w : World} (em : Bool) (n : Nat) (x : Int) : (Instr.checkKey em (n + 1) 3 (.int .i64 x)).run Yba.prog w = .ok () w := by
  simp [Instr.checkKey, run_underlying Yba.underlying3]
theorem check38 {w : World} (em : Bool) (n : Nat) (a : Option Addr) (x : Int) : (Instr.checkKey em (n + 2) 38 (.agg #[.pointer a, .int .i64 x])).run Yba.prog w = .ok () w := by
  unfold Instr.checkKey
  have h1 := part24 (w := w) (cs := #[.pointer a, .int .i64 x]) (off := 0) rfl
  have h2 := part3 (w := w) (cs := #[.pointer a, .int .i64 x]) (off := 1) rfl
  simp [run_underlying Yba.underlying38, h1, h2, check24, check3]
theorem bits38 (n : Nat) (a : Option Addr) (x : Int) : Instr.sameBits (n + 1) (.agg #[.pointer a, .int .i64 x]) (.agg #[.pointer a, .int .i64 x]) = true := by
  simp [Instr.sameBits]

theorem fkey_ok {w : World} {B : Nat} (h : Three w B) : KeyOk Yba.prog w 38 (fkey B) fV where
  desc := ⟨_, Yba.underlying38, fun _ _ => rfl⟩
  eq := fun k k' hk hk' => by
    obtain ⟨ti, hti, hsz⟩ := some_of_map i28
    have hp := ptr_eq h Yba.underlying24 hti (by rw [hsz]; decide) 9998 hk hk'
    have hf : Yba.prog.underlying 38 = some (.struct (Yba.prog.fieldsOf 38)) := by simp [Program.fieldsOf, Yba.underlying38]
    have e3 := run_equalIn_int (P := Yba.prog) w 9998 3 .i64 .i64 k.2 k'.2 Yba.underlying3
    unfold Op.equal fkey
    rw [show Op.maxDepth = 9999 + 1 from rfl, run_equalIn_struct w 9999 38 _ _ hf s38]
    simp only [Program.fieldsOf, Yba.underlying38, Op.eqFields]
    rw [show (9999 : Nat) = 9998 + 1 from rfl]
    generalize 9998 = d at *
    have p1 := part24 (w := w) (cs := #[.pointer (some ⟨B + k.1, 0, none⟩), .int .i64 k.2]) (off := 0) rfl
    have p2 := part3 (w := w) (cs := #[.pointer (some ⟨B + k.1, 0, none⟩), .int .i64 k.2]) (off := 1) rfl
    have p3 := part24 (w := w) (cs := #[.pointer (some ⟨B + k'.1, 0, none⟩), .int .i64 k'.2]) (off := 0) rfl
    have p4 := part3 (w := w) (cs := #[.pointer (some ⟨B + k'.1, 0, none⟩), .int .i64 k'.2]) (off := 1) rfl
    by_cases e : k.1 = k'.1
    · by_cases e2 : k.2 = k'.2
      · have : k = k' := Prod.ext e e2
        subst this
        simp [p1, p2, hp, e3]
      · have : ¬ k = k' := fun h => e2 (by rw [h])
        rw [show decide (k.1 = k'.1) = true by simp [e]] at hp
        rw [show (k.2 == k'.2) = false by simp [e2]] at e3
        simp [p1, p2, p3, p4, hp, e3, this]
    · have : ¬ k = k' := fun h => e (by rw [h])
      simp [p1, p3, hp, e, this]
  check := fun k em hk => check38 em 9998 _ _
  stays := fun k => bits38 9999 _ _

theorem i59 : (Yba.prog.info? 59).map (fun i => decide (i.size = 0)) = some false := by kernel_rfl

theorem vkey_ok {w : World} {B : Nat} (h : Three w B) : KeyOk Yba.prog w 48 (vkey B) vV where
  desc := ⟨_, Yba.underlying48, fun _ _ => rfl⟩
  eq := fun k k' hk hk' => by
    obtain ⟨ti, hti, hsz⟩ := some_of_map i59
    exact ptr_eq h Yba.underlying48 hti (by simpa using hsz) 9999 hk hk'
  check := fun k em hk => check48 em 9999 _
  stays := fun k => by
    show ((some (⟨B + k, 0, none⟩ : Addr)) == some ⟨B + k, 0, none⟩) = true
    simp
end Go.Proofs.Ybulkbini
