/-
  THE CONTRACTS OF keyPath (at a key that is a field's name), of zzs2974bwant and of zzs2974bisname.
-/
import Derived.Test.YbulkbiokFmtRows
import Derived.WalkKit
import Derived.Below
import Derived.Deep.DeepCutAuto
namespace Go.Proofs.YbulkbiokFmt
open Go Go.RowKit

def okc (c : UInt8) : Bool := (decide (97 ≤ c.toNat) && decide (c.toNat ≤ 122)) || (decide (65 ≤ c.toNat) && decide (c.toNat ≤ 90)) || (decide (48 ≤ c.toNat) && decide (c.toNat ≤ 57)) || decide (c.toNat = 95)
/-- The first byte lets a name begin. -/
def n0 : List UInt8 → Bool
  | [] => false
  | c :: _ => decide (c.toNat < 48) || decide (57 < c.toNat)
def isName (l : List UInt8) : Bool := n0 l && l.all okc

theorem take_snoc (s : ByteArray) (k : Nat) (h : k < s.size) : s.data.toList.take (k + 1) = s.data.toList.take k ++ [s[k]] := by
  rw [List.take_succ_eq_append_getElem (by simpa using h)]; rfl

theorem n0_first (s : ByteArray) (h : 0 < s.size) : n0 s.data.toList = (decide ((s[0]).toNat < 48) || decide (57 < (s[0]).toNat)) := by
  have e := take_snoc s 0 h
  simp only [List.take_zero, List.nil_append] at e
  cases hl : s.data.toList with
  | nil => rw [hl] at e; simp at e
  | cons c r => rw [hl] at e; simp at e; simp [n0, e]

theorem n0_empty (s : ByteArray) (h : s.size = 0) : n0 s.data.toList = false := by
  have : s.data.toList.length = 0 := by simpa using h
  rw [List.length_eq_zero_iff.1 this]; rfl

theorem all_snoc (s : ByteArray) (k : Nat) (h : k < s.size) (b : Bool) : (b && (s.data.toList.take (k + 1)).all okc) = ((b && (s.data.toList.take k).all okc) && okc s[k]) := by
  rw [take_snoc s k h, List.all_append, List.all_cons, List.all_nil, Bool.and_true, Bool.and_assoc]

theorem ret_str {a b : ByteArray} (h : a = b) : Ending.returned (.string a) = .returned (.string b) := by rw [h]

/-- path.key, or key alone at an empty path. -/
def wantS (path key : ByteArray) : ByteArray := if path.toList.isEmpty = true then key else path ++ ⟨#[46]⟩ ++ key

theorem isEmpty_of (s : ByteArray) : s.toList.isEmpty = decide (s.size = 0) := by
  rw [ByteArray.toList_eq]
  have : s.data.toList.length = s.size := by simp
  cases h : s.data.toList with
  | nil =>
    rw [h] at this
    have h0 : s.size = 0 := by rw [← this]; rfl
    rw [decide_eq_true h0]; rfl
  | cons c r =>
    rw [h] at this
    have h0 : ¬ s.size = 0 := by rw [← this]; simp
    rw [decide_eq_false h0]; rfl

theorem want_any (path key : ByteArray) (w : World) (hp : path.size ≤ 4096) (hk : key.size ≤ 4096) : Calls Ybaf.prog 6 #[.string path, .string key] w fun e w' => e = .returned (.string (wantS path key)) ∧ w' = w := by
  cases he : path.toList.isEmpty
  · have HW : Hid (wantS path key = path ++ ⟨#[46]⟩ ++ key) := by show _ = _; unfold wantS; rw [if_neg (by rw [he]; simp)]
    go_enter Ybaf.func6, Ybaf.ntmps6
    go_wp2
    go_ret
    exact ⟨ret_str HW.out.symm, rfl⟩
  · have HW : Hid (wantS path key = key) := by show _ = _; unfold wantS; rw [if_pos he]
    go_enter Ybaf.func6, Ybaf.ntmps6
    go_wp2
    go_ret
    exact ⟨ret_str HW.out.symm, rfl⟩

theorem bool_val {a b : Bool} (h : a = b) : Value.bool a = .bool b := by rw [h]

set_option maxHeartbeats 4000000 in
set_option maxRecDepth 100000 in
theorem keyPath_name (path key : ByteArray) (w : World) (hp : path.size ≤ 4096) (hk : key.size ≤ 4096) (hnm : isName key.data.toList = true) :
    Calls Ybaf.prog 5 #[.string path, .string key] w fun e w' => e = .returned (.string (wantS path key)) ∧ w' = w := by
  have HN : Hid (isName key.data.toList = true) := hnm
  clear hnm
  go_enter Ybaf.func5, Ybaf.ntmps5
  go_upto_region 1 with fail
  go_cut [5] (fun v wx => v = .bool (n0 key.data.toList) ∧ wx = w)
  case first =>
    by_cases h0 : 0 < key.size
    · have HF : Hid (n0 key.data.toList = (decide ((key[0]).toNat < 48) || decide (57 < (key[0]).toNat))) := n0_first key h0
      have hke : key.toList.isEmpty = false := by rw [isEmpty_of, decide_eq_false (by omega)]
      by_cases h1 : key[0].toNat < 48
      · go_wp2
        go_meet
        case rel => exact ⟨by rw [HF.out]; simp [h1], rfl⟩
      · by_cases h2 : 57 < key[0].toNat
        · go_wp2
          go_meet
          case rel => exact ⟨by rw [HF.out]; simp [h2]; omega, rfl⟩
        · go_wp2
          go_meet
          case rel => exact ⟨by rw [HF.out]; simp [h1, h2]; omega, rfl⟩
    · have HF : Hid (n0 key.data.toList = false) := n0_empty key (by omega)
      have hke : key.toList.isEmpty = true := by rw [isEmpty_of, decide_eq_true (by omega)]
      go_wp2
      go_meet
      case rel => exact ⟨by rw [HF.out], rfl⟩
  case rest =>
    obtain ⟨rfl, rfl⟩ := hcut
    obtain ⟨N, hN⟩ : ∃ N, n0 key.data.toList = N := ⟨_, rfl⟩
    rw [hN]
    have HN0 : Hid (n0 key.data.toList = N) := hN
    clear hN
    go_wp2
    go_loop [5, 22] (fun v i => ∃ k : Nat, k ≤ key.size ∧ i = .int .i64 k ∧ v = .bool (N && (key.data.toList.take k).all okc)) (fun _ i => key.size - (intOf i).toNat)
    case atStart => exact ⟨0, Nat.zero_le _, rfl, by simp⟩
    case round =>
      obtain ⟨k, hkk, rfl, rfl⟩ := hrel
      by_cases hlt : k < key.size
      · have HS : Hid ((N && (key.data.toList.take (k + 1)).all okc) = ((N && (key.data.toList.take k).all okc) && okc key[k])) := all_snoc key k hlt N
        obtain ⟨b, hb⟩ : ∃ b, (N && (key.data.toList.take k).all okc) = b := ⟨_, rfl⟩
        have HB : Hid ((N && (key.data.toList.take k).all okc) = b) := hb
        rw [hb]
        clear hb
        cases b
        · go_wp2
          go_round
          case rel => exact ⟨k + 1, by omega, by go_num, by rw [HS.out, HB.out]; rfl⟩
          case measure => simp [intOf]; omega
        · have hcb : key[k].toNat < 256 := key[k].toNat_lt
          have HCL : Hid (key[k].toNat < 48 ∨ (48 ≤ key[k].toNat ∧ key[k].toNat ≤ 57) ∨ (58 ≤ key[k].toNat ∧ key[k].toNat ≤ 64) ∨ (65 ≤ key[k].toNat ∧ key[k].toNat ≤ 90) ∨ (91 ≤ key[k].toNat ∧ key[k].toNat ≤ 96) ∨ (97 ≤ key[k].toNat ∧ key[k].toNat ≤ 122) ∨ 122 < key[k].toNat) := by
            show _ ∨ _
            omega
          rcases HCL.out with c1 | ⟨c1, c2⟩ | ⟨c1, c2⟩ | ⟨c1, c2⟩ | ⟨c1, c2⟩ | ⟨c1, c2⟩ | c1
          · go_wp2
            go_round
            case rel => exact ⟨k + 1, by omega, by go_num, bool_val (by rw [HS.out, HB.out]; first | (simp [okc]; omega) | (rw [Bool.eq_iff_iff]; simp [okc]; omega))⟩
            case measure => simp [intOf]; omega
          · go_wp2
            go_round
            case rel => exact ⟨k + 1, by omega, by go_num, bool_val (by rw [HS.out, HB.out]; first | (simp [okc]; omega) | (rw [Bool.eq_iff_iff]; simp [okc]; omega))⟩
            case measure => simp [intOf]; omega
          · go_wp2
            go_round
            case rel => exact ⟨k + 1, by omega, by go_num, bool_val (by rw [HS.out, HB.out]; first | (simp [okc]; omega) | (rw [Bool.eq_iff_iff]; simp [okc]; omega))⟩
            case measure => simp [intOf]; omega
          · go_wp2
            go_round
            case rel => exact ⟨k + 1, by omega, by go_num, bool_val (by rw [HS.out, HB.out]; first | (simp [okc]; omega) | (rw [Bool.eq_iff_iff]; simp [okc]; omega))⟩
            case measure => simp [intOf]; omega
          · go_wp2
            go_round
            case rel => exact ⟨k + 1, by omega, by go_num, bool_val (by rw [HS.out, HB.out]; first | (simp [okc]; omega) | (rw [Bool.eq_iff_iff]; simp [okc]; omega))⟩
            case measure => simp [intOf]; omega
          · go_wp2
            go_round
            case rel => exact ⟨k + 1, by omega, by go_num, bool_val (by rw [HS.out, HB.out]; first | (simp [okc]; omega) | (rw [Bool.eq_iff_iff]; simp [okc]; omega))⟩
            case measure => simp [intOf]; omega
          · go_wp2
            go_round
            case rel => exact ⟨k + 1, by omega, by go_num, bool_val (by rw [HS.out, HB.out]; first | (simp [okc]; omega) | (rw [Bool.eq_iff_iff]; simp [okc]; omega))⟩
            case measure => simp [intOf]; omega
      · have HA : Hid ((N && (key.data.toList.take k).all okc) = true) := by
          show _ = _
          rw [List.take_of_length_le (by simp; omega), ← HN0.out]
          exact HN.out
        rw [HA.out]
        cases he : path.toList.isEmpty
        · have HW : Hid (wantS path key = path ++ ⟨#[46]⟩ ++ key) := by show _ = _; unfold wantS; rw [if_neg (by rw [he]; simp)]
          go_wp2
          go_ret
          exact ⟨ret_str HW.out.symm, rfl⟩
        · have HW : Hid (wantS path key = key) := by show _ = _; unfold wantS; rw [if_pos he]
          go_wp2
          go_ret
          exact ⟨ret_str HW.out.symm, rfl⟩
end Go.Proofs.YbulkbiokFmt
