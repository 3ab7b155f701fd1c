/-
  zzs2974bisname BY ITS CONTRACT; keyPath AT A KEY THAT IS NO NAME (it comes to fmt); THE WALK OF 'LawS2974BAnyKey'.
-/
import Derived.Test.YbulkbiokFmtNameWalk
import Derived.Deep.DeepMust
import Derived.Stop.CallBack
import Derived.Stop.IfaceNil
import Derived.WalkSpells
import GoSem.ClaimData
namespace Go.Proofs.YbulkbiokFmt
open Go Go.RowKit Go.Extern.Stop Go.Stop Go.Extern

theorem call8 (args : Array Value) (w : World) : (callFunc 8 args).run Ybaf.prog w = ((FmtStop.sprintf #[9, 44] #[9] args).run Ybaf.prog w).andThen fun v w' => .ok (.value v) w' :=
  run_callFunc_extern Ybaf.func8 (by kernel_rfl) (by kernel_rfl) (by kernel_rfl) (by kernel_rfl) args w
theorem guard (name : String) (w : World) : (FmtStop.guard name).run Ybaf.prog w = .ok () w := by kernel_rfl
theorem fmt2 : FmtStop.printed? ⟨#[37, 115, 91, 37, 113, 93]⟩ 2 = some [(0, 115, false), (1, 113, false)] := by kernel_rfl
theorem fmt2r (w : World) : (FmtDoors.printed ⟨#[37, 115, 91, 37, 113, 93]⟩ 2).run Ybaf.prog w = .ok [(0, 115, false), (1, 113, false)] w := by kernel_rfl
def shape9 : List UInt8 := [12, 6, 0, 0, 0, 0, 0, 0, 0, 115, 116, 114, 105, 110, 103]
theorem op9_115 (name : String) (x : ByteArray) (w : World) : (FmtStop.operand name false 115 false (.iface 9 (.string x))).run Ybaf.prog w = .ok (shape9, FmtStop.pack x.data.toList) w := by kernel_rfl
theorem op9_113 (name : String) (x : ByteArray) (w : World) : (FmtStop.operand name false 113 false (.iface 9 (.string x))).run Ybaf.prog w = .ok (shape9, FmtStop.pack x.data.toList) w := by kernel_rfl

attribute [local go_sem] call8 guard fmt2 fmt2r op9_115 op9_113

set_option maxHeartbeats 4000000 in
set_option maxRecDepth 100000 in
theorem keyPath_other (F : Interp) (path key : ByteArray) (w : World) (hF : F.answers w.tape) (hk : key.size ≤ 4096) (hnm : isName key.data.toList = false) :
    Calls Ybaf.prog 5 #[.string path, .string key] w fun e w' => (∃ s, e = .returned (.string s)) ∧ Below w.heap.size w w' := by
  have HN : Hid (isName key.data.toList = false) := hnm
  have hF' := answers_open hF
  clear hnm
  go_enter Ybaf.func5, Ybaf.ntmps5
  go_upto_region 1 with fail
  go_cut [5] (fun v wx => v = .bool (n0 key.data.toList) ∧ wx = w)
  case first =>
    by_cases h0 : 0 < key.size
    · have HF : Hid (n0 key.data.toList = (decide ((key[0]).toNat < 48) || decide (57 < (key[0]).toNat))) := n0_first key h0
      have hke : key.toList.isEmpty = false := by rw [isEmpty_of, decide_eq_false (by omega)]
      by_cases h1 : key[0].toNat < 48
      · go_wp2
        go_meet
        case rel => exact ⟨by rw [HF.out]; simp [h1], rfl⟩
      · by_cases h2 : 57 < key[0].toNat
        · go_wp2
          go_meet
          case rel => exact ⟨by rw [HF.out]; simp [h2]; omega, rfl⟩
        · go_wp2
          go_meet
          case rel => exact ⟨by rw [HF.out]; simp [h1, h2]; omega, rfl⟩
    · have HF : Hid (n0 key.data.toList = false) := n0_empty key (by omega)
      have hke : key.toList.isEmpty = true := by rw [isEmpty_of, decide_eq_true (by omega)]
      go_wp2
      go_meet
      case rel => exact ⟨by rw [HF.out], rfl⟩
  case rest =>
    obtain ⟨rfl, rfl⟩ := hcut
    obtain ⟨N, hN⟩ : ∃ N, n0 key.data.toList = N := ⟨_, rfl⟩
    rw [hN]
    have HN0 : Hid (n0 key.data.toList = N) := hN
    clear hN
    go_wp2
    go_loop [5, 22] (fun v i => ∃ k : Nat, k ≤ key.size ∧ i = .int .i64 k ∧ v = .bool (N && (key.data.toList.take k).all okc)) (fun _ i => key.size - (intOf i).toNat)
    case atStart => exact ⟨0, Nat.zero_le _, rfl, by simp⟩
    case round =>
      obtain ⟨k, hkk, rfl, rfl⟩ := hrel
      by_cases hlt : k < key.size
      · have HS : Hid ((N && (key.data.toList.take (k + 1)).all okc) = ((N && (key.data.toList.take k).all okc) && okc key[k])) := all_snoc key k hlt N
        obtain ⟨b, hb⟩ : ∃ b, (N && (key.data.toList.take k).all okc) = b := ⟨_, rfl⟩
        have HB : Hid ((N && (key.data.toList.take k).all okc) = b) := hb
        rw [hb]
        clear hb
        cases b
        · go_wp2
          go_round
          case rel => exact ⟨k + 1, by omega, by go_num, by rw [HS.out, HB.out]; rfl⟩
          case measure => simp [intOf]; omega
        · have hcb : key[k].toNat < 256 := key[k].toNat_lt
          have HCL : Hid (key[k].toNat < 48 ∨ (48 ≤ key[k].toNat ∧ key[k].toNat ≤ 57) ∨ (58 ≤ key[k].toNat ∧ key[k].toNat ≤ 64) ∨ (65 ≤ key[k].toNat ∧ key[k].toNat ≤ 90) ∨ (91 ≤ key[k].toNat ∧ key[k].toNat ≤ 96) ∨ (97 ≤ key[k].toNat ∧ key[k].toNat ≤ 122) ∨ 122 < key[k].toNat) := by
            show _ ∨ _
            omega
          rcases HCL.out with c1 | ⟨c1, c2⟩ | ⟨c1, c2⟩ | ⟨c1, c2⟩ | ⟨c1, c2⟩ | ⟨c1, c2⟩ | c1
          · go_wp2
            go_round
            case rel => exact ⟨k + 1, by omega, by go_num, bool_val (by rw [HS.out, HB.out]; first | (simp [okc]; omega) | (rw [Bool.eq_iff_iff]; simp [okc]; omega))⟩
            case measure => simp [intOf]; omega
          · go_wp2
            go_round
            case rel => exact ⟨k + 1, by omega, by go_num, bool_val (by rw [HS.out, HB.out]; first | (simp [okc]; omega) | (rw [Bool.eq_iff_iff]; simp [okc]; omega))⟩
            case measure => simp [intOf]; omega
          · go_wp2
            go_round
            case rel => exact ⟨k + 1, by omega, by go_num, bool_val (by rw [HS.out, HB.out]; first | (simp [okc]; omega) | (rw [Bool.eq_iff_iff]; simp [okc]; omega))⟩
            case measure => simp [intOf]; omega
          · go_wp2
            go_round
            case rel => exact ⟨k + 1, by omega, by go_num, bool_val (by rw [HS.out, HB.out]; first | (simp [okc]; omega) | (rw [Bool.eq_iff_iff]; simp [okc]; omega))⟩
            case measure => simp [intOf]; omega
          · go_wp2
            go_round
            case rel => exact ⟨k + 1, by omega, by go_num, bool_val (by rw [HS.out, HB.out]; first | (simp [okc]; omega) | (rw [Bool.eq_iff_iff]; simp [okc]; omega))⟩
            case measure => simp [intOf]; omega
          · go_wp2
            go_round
            case rel => exact ⟨k + 1, by omega, by go_num, bool_val (by rw [HS.out, HB.out]; first | (simp [okc]; omega) | (rw [Bool.eq_iff_iff]; simp [okc]; omega))⟩
            case measure => simp [intOf]; omega
          · go_wp2
            go_round
            case rel => exact ⟨k + 1, by omega, by go_num, bool_val (by rw [HS.out, HB.out]; first | (simp [okc]; omega) | (rw [Bool.eq_iff_iff]; simp [okc]; omega))⟩
            case measure => simp [intOf]; omega
      · have HA : Hid ((N && (key.data.toList.take k).all okc) = false) := by
          show _ = _
          rw [List.take_of_length_le (by simp; omega), ← HN0.out]
          exact HN.out
        rw [HA.out]
        go_wp2
        go_ret
        exact ⟨⟨_, rfl⟩, ((Below.refl _ _).alloc (Nat.le_refl _) _).drew⟩

theorem ret_bool {a b : Bool} (h : a = b) : Ending.returned (.bool a) = .returned (.bool b) := by rw [h]

/-- Is c among the first j of the table's bytes? -/
def inTbl (c : UInt8) : Nat → Bool
  | 0 => false
  | j + 1 => inTbl c j || decide (tb j = c)
theorem inTbl_all : ∀ n, n < 256 → inTbl (UInt8.ofNat n) 63 = okc (UInt8.ofNat n) := by decide +kernel
theorem inTbl_okc (c : UInt8) : inTbl c 63 = okc c := by
  have := inTbl_all c.toNat c.toNat_lt
  simpa using this

theorem all_false (s : ByteArray) (k : Nat) (h : k < s.size) (hc : okc s[k] = false) : s.data.toList.all okc = false := by
  rw [List.all_eq_false]
  refine ⟨s[k], ?_, by simp [hc]⟩
  exact Array.mem_toList_iff.2 (Array.getElem_mem h)

set_option maxHeartbeats 4000000 in
set_option maxRecDepth 100000 in
theorem isname_any (key : ByteArray) (w : World) (hk : key.size ≤ 4096) : Calls Ybaf.prog 7 #[.string key] w fun e w' => e = .returned (.bool (isName key.data.toList)) ∧ w' = w := by
  have htb : ∀ (i : Nat) (h : i < (⟨#[97, 98, 99, 100, 101, 102, 103, 104, 105, 106, 107, 108, 109, 110, 111, 112, 113, 114, 115, 116, 117, 118, 119, 120, 121, 122, 65, 66, 67, 68, 69, 70, 71, 72, 73, 74, 75, 76, 77, 78, 79, 80, 81, 82, 83, 84, 85, 86, 87, 88, 89, 90, 95, 48, 49, 50, 51, 52, 53, 54, 55, 56, 57]⟩ : ByteArray).size), (⟨#[97, 98, 99, 100, 101, 102, 103, 104, 105, 106, 107, 108, 109, 110, 111, 112, 113, 114, 115, 116, 117, 118, 119, 120, 121, 122, 65, 66, 67, 68, 69, 70, 71, 72, 73, 74, 75, 76, 77, 78, 79, 80, 81, 82, 83, 84, 85, 86, 87, 88, 89, 90, 95, 48, 49, 50, 51, 52, 53, 54, 55, 56, 57]⟩ : ByteArray)[i]'h = tb i := tbl_get
  by_cases h0 : 0 < key.size
  · have hke : key.toList.isEmpty = false := by rw [isEmpty_of, decide_eq_false (by omega)]
    have HF : Hid (n0 key.data.toList = (decide ((key[0]).toNat < 48) || decide (57 < (key[0]).toNat))) := n0_first key h0
    by_cases hd : 48 ≤ key[0].toNat ∧ key[0].toNat ≤ 57
    · obtain ⟨d1, d2⟩ := hd
      have HR : Hid (isName key.data.toList = false) := by
        show _ = _
        unfold isName
        rw [HF.out, decide_eq_false (by omega), decide_eq_false (by omega)]; rfl
      go_enter Ybaf.func7, Ybaf.ntmps7
      go_wp2
      go_ret
      exact ⟨ret_bool HR.out.symm, rfl⟩
    · have HR : Hid (isName key.data.toList = key.data.toList.all okc) := by
        show _ = _
        unfold isName
        have : (decide ((key[0]).toNat < 48) || decide (57 < (key[0]).toNat)) = true := by simp; omega
        rw [HF.out, this, Bool.true_and]
      have hdd : key[0].toNat < 48 ∨ 57 < key[0].toNat := by omega
      go_enter Ybaf.func7, Ybaf.ntmps7
      go_upto_region 3 with fail
      go_cut [16] (fun v wx => v = .bool false ∧ wx = w)
      case first =>
        rcases hdd with hdd | hdd
        · go_wp2
          go_meet
          case rel => exact ⟨rfl, rfl⟩
        · go_wp2
          go_meet
          case rel => exact ⟨by simp; omega, rfl⟩
      case rest =>
        obtain ⟨rfl, rfl⟩ := hcut
        clear hdd hd HF
        go_wp2
        go_loop [3] (fun i => ∃ k : Nat, k ≤ key.size ∧ i = .int .i64 k ∧ (key.data.toList.take k).all okc = true) (fun i => key.size - (intOf i).toNat)
        case atStart => exact ⟨0, Nat.zero_le _, rfl, rfl⟩
        case round =>
          obtain ⟨k, hkk, rfl, hall⟩ := hrel
          have HA : Hid ((key.data.toList.take k).all okc = true) := hall
          clear hall
          by_cases hlt : k < key.size
          · have HS : Hid ((true && (key.data.toList.take (k + 1)).all okc) = ((true && (key.data.toList.take k).all okc) && okc key[k])) := all_snoc key k hlt true
            have HC : Hid (okc key[k] = false → key.data.toList.all okc = false) := all_false key k hlt
            have HT : Hid (inTbl key[k] 63 = okc key[k]) := inTbl_okc key[k]
            go_wp2
            go_loop [5, 6] (fun v i => ∃ j : Nat, j ≤ 63 ∧ i = .int .i64 j ∧ v = .bool (inTbl key[k] j)) (fun _ i => 63 - (intOf i).toNat)
            case atStart => exact ⟨0, Nat.zero_le _, rfl, rfl⟩
            case round =>
              obtain ⟨j, hj, rfl, rfl⟩ := hrel
              by_cases hj63 : j < 63
              · have hjs : (j : Int) < 63 := by omega
                by_cases he : tb j = key[k]
                · have HI : Hid (inTbl key[k] (j + 1) = true) := by show (inTbl key[k] j || decide (tb j = key[k])) = true; simp [he]
                  have hE : (((tb j).toNat : Int) == (key[k].toNat : Int)) = true := by rw [he]; simp
                  clear he
                  go_wp2
                  go_round
                  case rel => exact ⟨j + 1, by omega, by go_num, by rw [HI.out]⟩
                  case measure => simp [intOf]; omega
                · have HI : Hid (inTbl key[k] (j + 1) = inTbl key[k] j) := by show (inTbl key[k] j || decide (tb j = key[k])) = _; simp [he]
                  have hE : (((tb j).toNat : Int) == (key[k].toNat : Int)) = false := by
                    simp only [beq_eq_false_iff_ne, ne_eq]
                    intro h
                    exact he (UInt8.toNat_inj.1 (by omega))
                  clear he
                  go_wp2
                  go_round
                  case rel => exact ⟨j + 1, by omega, by go_num, by rw [HI.out]⟩
                  case measure => simp [intOf]; omega
              · have hj' : j = 63 := by omega
                subst hj'
                rw [HT.out]
                cases ho : okc key[k]
                · have HZ : Hid (key.data.toList.all okc = false) := HC.out ho
                  go_wp2
                  go_ret
                  exact ⟨ret_bool (by rw [HR.out, HZ.out]), rfl⟩
                · have HZ : Hid ((key.data.toList.take (k + 1)).all okc = true) := by
                    have := HS.out
                    rw [Bool.true_and, Bool.true_and, HA.out, ho] at this
                    exact this
                  go_wp2
                  go_round
                  case rel => exact ⟨k + 1, by omega, by go_num, HZ.out⟩
                  case measure => simp [intOf]; omega
          · have HZ : Hid (key.data.toList.all okc = true) := by
              have := HA.out
              rwa [List.take_of_length_le (by simp; omega)] at this
            go_wp2
            go_ret
            exact ⟨ret_bool (by rw [HR.out, HZ.out]), rfl⟩
  · have hke : key.toList.isEmpty = true := by rw [isEmpty_of, decide_eq_true (by omega)]
    have HR : Hid (isName key.data.toList = false) := by
      show _ = _
      unfold isName
      rw [n0_empty key (by omega)]; rfl
    go_enter Ybaf.func7, Ybaf.ntmps7
    go_wp2
    go_ret
    exact ⟨ret_bool HR.out.symm, rfl⟩

theorem anykey_walk (F : Interp) (path key : ByteArray) (w : World) (hF : F.answers w.tape) :
    Calls Ybaf.prog 4 #[.string path, .string key] w fun e w' => e = .returned (.bool true) ∧ Below w.heap.size w w' := by
  by_cases h1 : 4096 < key.size
  · go_enter Ybaf.func4, Ybaf.ntmps4
    go_wp2
    go_ret
    exact ⟨rfl, Below.refl _ _⟩
  by_cases h2 : 4096 < path.size
  · go_enter Ybaf.func4, Ybaf.ntmps4
    go_wp2
    go_ret
    exact ⟨rfl, Below.refl _ _⟩
  have hk : key.size ≤ 4096 := by omega
  have hp : path.size ≤ 4096 := by omega
  cases hn : isName key.data.toList
  · have HN : Hid (isName key.data.toList = false) := hn
    clear hn
    go_enter Ybaf.func4, Ybaf.ntmps4
    go_wp2_with fail
    refine (keyPath_other F path key w hF hk HN.out).mono ?_
    rintro e w1 ⟨⟨s, rfl⟩, hb⟩
    go_wp2_with fail
    refine (isname_any key w1 hk).mono ?_
    rintro e w2 ⟨rfl, rfl⟩
    rw [HN.out]
    go_wp2
    go_ret
    exact ⟨rfl, hb⟩
  · have HN : Hid (isName key.data.toList = true) := hn
    clear hn
    go_enter Ybaf.func4, Ybaf.ntmps4
    go_wp2_with fail
    refine (keyPath_name path key w hp hk HN.out).mono ?_
    rintro e w1 ⟨rfl, rfl⟩
    go_wp2_with fail
    refine (isname_any key w1 hk).mono ?_
    rintro e w2 ⟨rfl, rfl⟩
    rw [HN.out]
    go_wp2_with fail
    refine (want_any path key w2 hp hk).mono ?_
    rintro e w3 ⟨rfl, rfl⟩
    go_wp2
    go_ret
    exact ⟨rfl, Below.refl _ _⟩
end Go.Proofs.YbulkbiokFmt
