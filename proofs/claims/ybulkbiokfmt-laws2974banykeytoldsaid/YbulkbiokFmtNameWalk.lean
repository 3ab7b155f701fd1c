/-
  THE WALK OF 'LawS2974BNameKey'.
-/
import Derived.Test.YbulkbiokFmtName
import Derived.OwnWalk
import Derived.Deep.DeepMust
namespace Go.Proofs.YbulkbiokFmt
open Go Go.RowKit

theorem namekey_long (path : ByteArray) (first : Int) (a : Option Addr) (len cap : Nat) (w : World) (h : 1024 < len ∨ 4096 < path.size) :
    Calls Ybaf.prog 3 #[.string path, .int .u8 first, .slice a len cap] w fun e w' => e = .returned (.bool true) ∧ Below w.heap.size w w' := by
  by_cases h1 : 1024 < len
  · go_enter Ybaf.func3, Ybaf.ntmps3
    go_wp2
    go_ret
    exact ⟨rfl, Below.refl _ _⟩
  · have h2 : 4096 < path.size := by omega
    go_enter Ybaf.func3, Ybaf.ntmps3
    go_wp2
    go_ret
    exact ⟨rfl, Below.refl _ _⟩

theorem inf5 : (Ybaf.prog.info? 5).map (fun i => (i.zero, i.size, i.bytes)) = some (some (.int .u8 0), 1, 1) := by kernel_rfl

def tbl : ByteArray := ⟨#[97, 98, 99, 100, 101, 102, 103, 104, 105, 106, 107, 108, 109, 110, 111, 112, 113, 114, 115, 116, 117, 118, 119, 120, 121, 122, 65, 66, 67, 68, 69, 70, 71, 72, 73, 74, 75, 76, 77, 78, 79, 80, 81, 82, 83, 84, 85, 86, 87, 88, 89, 90, 95, 48, 49, 50, 51, 52, 53, 54, 55, 56, 57]⟩
def tb (i : Nat) : UInt8 := tbl.data.toList[i]?.getD 0
def B8 (x : UInt8) : Value := .int .u8 (x.toNat : Int)

theorem tbl_get (i : Nat) (h : i < tbl.size) : tbl[i]'h = tb i := by
  unfold tb
  have h' : i < tbl.data.toList.length := by simpa using h
  rw [List.getElem?_eq_getElem h']
  rfl
theorem ok_tb : ∀ i, i < 63 → okc (tb i) = true := by decide +kernel
theorem first_tb : ∀ i, i < 53 → (decide ((tb i).toNat < 48) || decide (57 < (tb i).toNat)) = true := by decide +kernel

/-- The key that the law builds, after k of the rest. -/
def ks (f : Nat) (D : List Nat) (k : Nat) : List UInt8 := tb f :: (D.take k).map fun x => tb (x % 63)

theorem ks_len (f : Nat) (D : List Nat) (k : Nat) (h : k ≤ D.length) : (ks f D k).length = k + 1 := by simp [ks]; omega
theorem ks_snoc (f : Nat) (D : List Nat) (k x : Nat) (h : D[k]? = some x) : ks f D (k + 1) = ks f D k ++ [tb (x % 63)] := by
  have hn : k < D.length := by
    rcases Nat.lt_or_ge k D.length with h' | h'
    · exact h'
    · rw [List.getElem?_eq_none h'] at h; cases h
  have he : D[k] = x := by rw [List.getElem?_eq_getElem hn] at h; simpa using h
  unfold ks
  rw [List.take_succ_eq_append_getElem hn, List.map_append, he]
  rfl
theorem ks_name (f : Nat) (hf : f < 53) (D : List Nat) (k : Nat) : isName (ks f D k) = true := by
  unfold isName
  rw [Bool.and_eq_true]
  refine ⟨first_tb f hf, ?_⟩
  rw [List.all_eq_true]
  intro c hc
  simp only [ks, List.mem_cons, List.mem_map] at hc
  rcases hc with rfl | ⟨x, _, rfl⟩
  · exact ok_tb f (by omega)
  · exact ok_tb _ (Nat.mod_lt _ (by omega))

theorem row_block {wr : World} {base e s n k : Nat} {v : Value} {xs : List Value} (h : wr.ownsRow base e s v n xs) (hk : v.ownBlock = some k) : base ≤ k := by
  obtain ⟨_, h⟩ := h
  rcases h with ⟨rfl, _⟩ | ⟨g, cap, cur, rfl, hg, _⟩
  · simp [Value.ownBlock] at hk
  · simp [Value.ownBlock] at hk
    omega

theorem push_all : ∀ (xs : List UInt8) (s : ByteArray), (xs.map fun x => (x.toNat : Int)).foldl (fun r n => r.push (UInt8.ofNat n.toNat)) s = ⟨s.data ++ xs.toArray⟩
  | [], s => by simp
  | x :: xs, s => by
    simp only [List.map_cons, List.foldl_cons, Int.toNat_natCast, UInt8.ofNat_toNat]
    rw [push_all xs (s.push x)]
    congr 1
    show s.data.push x ++ xs.toArray = _
    simp

/-- string(b) of the call's own bytes. -/
theorem run_str {wr : World} {base n : Nat} {v : Value} {xs : List UInt8} (h : wr.ownsRow base 5 1 v n (xs.map B8)) (hn : 0 < n) : (convert 22 9 v).run Ybaf.prog wr = .ok (.string ⟨xs.toArray⟩) wr := by
  obtain ⟨hl, h⟩ := h
  have hxl : xs.length = n := by simpa using hl
  rcases h with ⟨_, h0⟩ | ⟨g, cap, cur, rfl, _, hh, hc, _, _, ht⟩
  · omega
  · rw [run_convert_bytes_string wr 22 9 5 _ _ _ Ybaf.underlying22 Ybaf.underlying5 Ybaf.underlying9]
    rw [run_bytesToString (P := Ybaf.prog) wr ⟨g, 0, none⟩ n cap (xs.map fun x => (x.toNat : Int)) ?_]
    · rw [push_all]
      congr 2
      simp
    · have := run_loadCells_list (P := Ybaf.prog) wr ⟨g, 0, none⟩ (xs.map B8) (fun j u hj => by
        have hadd : (⟨g, 0, none⟩ : Addr).add j = ⟨g, j, none⟩ := by unfold Addr.add; split <;> simp_all
        rw [hadd]
        have hjn : j < n := by
          rcases Nat.lt_or_ge j n with h | h
          · exact h
          · rw [List.getElem?_eq_none (by simp; omega)] at hj; cases hj
        rw [← ht, List.getElem?_take_of_lt (by omega)] at hj
        simp only [World.cell?, hh]
        simpa using hj)
      simp only [List.length_map, hxl] at this
      rw [this]
      simp [B8, Function.comp_def]

theorem wpList_str {ops : Array Oper} {rest : List Oper} {op : Oper} {a : Act} {w : World} {Q : Exit → Act → World → Prop} (hgd : op.guard = none) (x : Operand) (ho : op.op = .convert 22 9 x) (v : Value) (hx : a.eval x = v) (s : ByteArray)
    (hrun : (convert 22 9 v).run Ybaf.prog w = .ok (.string s) w) (h : wpList Ybaf.prog ops Q rest (a.put op.dst (.string s)) w) : wpList Ybaf.prog ops Q (op :: rest) a w :=
  wpList_plain hgd fun K hK => by
    unfold Oper.wp execOp
    simp only [ho, hx, Sem.run_bind, hrun, Result.andThen_ok, Sem.run_pure]
    exact hK _ _ h

/-- A slice of bytes that came in. -/
def IsB (w : World) (a : Option Addr) (len : Nat) (D : List Nat) : Prop :=
  D.length = len ∧ len ≤ maxLen ∧ (0 < len → ∃ b off, a = some ⟨b, off, none⟩ ∧ b < w.heap.size ∧ ∀ (i x : Nat), D[i]? = some x → w.cell? ⟨b, off + i, none⟩ = some (.int .u8 (x : Int))) ∧ ∀ x ∈ D, x < 256

set_option maxHeartbeats 4000000 in
set_option maxRecDepth 100000 in
theorem namekey_walk (path : ByteArray) (first : Int) (a : Option Addr) (len cap : Nat) (D : List Nat) (w : World) (h1 : len ≤ 1024) (h2 : path.size ≤ 4096) (hf0 : 0 ≤ first) (hf1 : first ≤ 255) (h : IsB w a len D) :
    Calls Ybaf.prog 3 #[.string path, .int .u8 first, .slice a len cap] w fun e w' => e = .returned (.bool true) ∧ Below w.heap.size w w' := by
  obtain ⟨i0, hi, hz0, hz1, hz2⟩ := info_parts inf5
  obtain ⟨hlen, hmax, hcell, hby⟩ := h
  obtain ⟨f, hf53, hf⟩ : ∃ f : Nat, f < 53 ∧ first % 53 = (f : Int) := ⟨(first % 53).toNat, by omega, by omega⟩
  have htb : ∀ (i : Nat) (h : i < (⟨#[97, 98, 99, 100, 101, 102, 103, 104, 105, 106, 107, 108, 109, 110, 111, 112, 113, 114, 115, 116, 117, 118, 119, 120, 121, 122, 65, 66, 67, 68, 69, 70, 71, 72, 73, 74, 75, 76, 77, 78, 79, 80, 81, 82, 83, 84, 85, 86, 87, 88, 89, 90, 95, 48, 49, 50, 51, 52, 53, 54, 55, 56, 57]⟩ : ByteArray).size), (⟨#[97, 98, 99, 100, 101, 102, 103, 104, 105, 106, 107, 108, 109, 110, 111, 112, 113, 114, 115, 116, 117, 118, 119, 120, 121, 122, 65, 66, 67, 68, 69, 70, 71, 72, 73, 74, 75, 76, 77, 78, 79, 80, 81, 82, 83, 84, 85, 86, 87, 88, 89, 90, 95, 48, 49, 50, 51, 52, 53, 54, 55, 56, 57]⟩ : ByteArray)[i]'h = tb i := tbl_get
  go_enter Ybaf.func3, Ybaf.ntmps3
  go_upto_region 4 with (at_make; go_must (refine wpList_make_own _ rfl _ _ 22 rfl w.heap.size 5 i0 (.int .u8 0) 1 Ybaf.underlying22 hi hz0 hz1 _ _ _ (len + 1) rfl rfl (by omega) (by rw [hz2]; omega) (by unfold maxLen; omega) (Nat.le_refl _) ?_; intro w0 hown0 hgrow0))
  have hbr0 : Below w.heap.size w w0 := (Below.refl _ _).grown hgrow0 (Nat.le_refl _) (fun k h => by cases h)
  have hz := hbr0.size
  go_wp2_with (at_builtin; go_must (refine wpList_append_own _ rfl _ _ 22 rfl w.heap.size 5 i0 (.int .u8 0) 1 1 Ybaf.underlying22 hi hz0 hz1 hz2 rfl (by decide) _ _ _ rfl (hown0.alloc _) ⟨w0.heap.size, 0, none⟩ 1 1 [B8 (tb f)] rfl rfl (by intro t u ht; match t, ht with | 0, ht => simp at ht; subst ht; simp [Addr.add, B8]) (by intro u hu; simp at hu; subst hu; rfl) (by unfold maxLen; omega) (by omega) (by simp; omega) ?_; intro v' w1 hown' hgrow _))
  have hbr1 : Below w.heap.size w w1 := (hbr0.alloc hbr0.size _).grown hgrow (by simp; omega) (fun k hk => row_block hown0 hk)
  have hown1 : w1.ownsRow w.heap.size 5 1 v' (0 + 1) ((ks f D 0).map B8) := hown'
  clear hown' hgrow hown0 hgrow0 hbr0 hz hf
  go_loopw [7, 32] (fun v i wr => ∃ k : Nat, k ≤ len ∧ i = .int .i64 k ∧ wr.ownsRow w.heap.size 5 1 v (k + 1) ((ks f D k).map B8) ∧ Below w.heap.size w wr) (fun _ i _ => len - (intOf i).toNat)
  case atStart => exact ⟨0, Nat.zero_le _, rfl, hown1, hbr1⟩
  case round =>
    clear hown1 hbr1
    obtain ⟨k, hk, rfl, hown, hbr⟩ := hrel
    have hz := hbr.size
    by_cases hlt : k < len
    · obtain ⟨b, off, rfl, hb, hc⟩ := hcell (by omega)
      obtain ⟨x, hx⟩ : ∃ x, D[k]? = some x := ⟨_, List.getElem?_eq_getElem (by omega)⟩
      have hcx := (hbr.cell (p := ⟨b, off + k, none⟩) hb).trans (hc k x hx)
      have hxb := hby x (List.mem_of_getElem? hx)
      obtain ⟨y, hy63, hy⟩ : ∃ y : Nat, y < 63 ∧ (x : Int) % 63 = (y : Int) := ⟨x % 63, by omega, by omega⟩
      have HS : Hid ((ks f D (k + 1)).map B8 = (ks f D k).map B8 ++ [B8 (tb y)]) := by
        show _ = _
        rw [ks_snoc f D k x hx, List.map_append, show x % 63 = y by omega]
        rfl
      have hbw : b < wr.heap.size := by omega
      clear hcell hc hby hx
      go_wp2_with (at_builtin; go_must (refine wpList_append_own _ rfl _ _ 22 rfl w.heap.size 5 i0 (.int .u8 0) 1 1 Ybaf.underlying22 hi hz0 hz1 hz2 rfl (by decide) _ _ _ rfl (hown.alloc _) ⟨wr.heap.size, 0, none⟩ 1 1 [B8 (tb y)] rfl rfl (by intro t u ht; match t, ht with | 0, ht => simp at ht; subst ht; simp [Addr.add, B8]) (by intro u hu; simp at hu; subst hu; rfl) (by unfold maxLen; omega) (by omega) (by simp; omega) ?_; intro v' w1 hown' hgrow _))
      have hg2 : (wr.alloc (Obj.cells #[B8 (tb y)] 5)).grownBy w1 u7.ownBlock := hgrow
      have hbr2 : Below w.heap.size w w1 := (hbr.alloc hbr.size _).grown hg2 (by simp; omega) (fun k hk => row_block hown hk)
      go_roundw
      case rel => exact ⟨k + 1, by omega, by go_num, HS.out ▸ hown', hbr2⟩
      case measure => simp [intOf]; omega
    · have hkl : k = len := by omega
      subst hkl
      have hrs := run_str hown (by omega)
      have hnm : isName (ks f D k) = true := ks_name f hf53 D k
      have hkl : (ks f D k).length = k + 1 := ks_len f D k (by omega)
      generalize hkey : (⟨(ks f D k).toArray⟩ : ByteArray) = key at *
      have hkd : key.data.toList = ks f D k := by rw [← hkey]
      have hks : key.size ≤ 4096 := by rw [← hkey]; show (ks f D k).toArray.size ≤ 4096; simp; omega
      rw [← hkd] at hnm
      have HNM : Hid (isName key.data.toList = true) := hnm
      clear hnm hkl hkey hkd hown hcell hby
      go_wp2_with (first | (refine wpList_str rfl _ rfl _ rfl key hrs ?_))
      refine (keyPath_name path key _ h2 hks HNM.out).mono ?_
      rintro e w2 ⟨rfl, rfl⟩
      go_wp2_with fail
      refine (want_any path key _ h2 hks).mono ?_
      rintro e w3 ⟨rfl, rfl⟩
      go_wp2
      go_ret
      exact ⟨rfl, hbr⟩
end Go.Proofs.YbulkbiokFmt
