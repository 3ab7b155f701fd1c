/-
  THE LAW's OWN MODEL BY ITS CONTRACT, AND THE WALK OF 'LawS2974ARaw'.
-/
import Derived.Test.YbulkbiokCompact
import Derived.Test.YbulkbiokNil
import Derived.Deep.DeepCutAuto
namespace Go.Proofs.Ybulkbiok
open Go Go.RowKit

theorem ce_drop_zero {D : List Nat} {q : Nat} (h : D.length < q + 1) : ce D q = 0 := by unfold ce; rw [if_pos h]

theorem ce_s {D : List Nat} {q s : Nat} (hs : D[q]? = some s) (h : 128 ≤ s ∨ D.length ≤ q + 1 + s) : ce D q = 0 := by
  unfold ce
  rw [hs]
  simp only [Option.getD_some]
  split
  · rfl
  · first | rfl | rw [if_pos h]
theorem ce_c {D : List Nat} {q s c : Nat} (hs : D[q]? = some s) (hc : D[q + 1 + s]? = some c) (h : 128 ≤ c ∨ D.length < q + 1 + s + 1 + c * 64) : ce D q = 0 := by
  unfold ce
  rw [hs]
  simp only [Option.getD_some]
  rw [hc]
  simp only [Option.getD_some]
  split
  · rfl
  · split
    · rfl
    · first | rfl | rw [if_pos h]
theorem ce_ok {D : List Nat} {q s c : Nat} (hs : D[q]? = some s) (hc : D[q + 1 + s]? = some c) (h1 : ¬ (128 ≤ s ∨ D.length ≤ q + 1 + s)) (h2 : ¬ (128 ≤ c ∨ D.length < q + 1 + s + 1 + c * 64)) : ce D q = q + 1 + s + 1 + c * 64 := by
  unfold ce
  rw [hs]
  simp only [Option.getD_some]
  rw [hc]
  simp only [Option.getD_some]
  rw [if_neg (by omega), if_neg h1, if_neg h2]

set_option maxHeartbeats 4000000 in
set_option maxRecDepth 100000 in
theorem model_any (a : Option Addr) (len cap : Nat) (D : List Nat) (n : Nat) (hn : n ≤ 7) (R : Int) (q : Nat) (hq : R = (q : Int) + 1) (hq4 : q ≤ 4) (m : Int) (hm : m ≤ 128) (hl : len ≤ 4096) (w : World) (h : IsB w a len D) :
    Calls Yba.prog 5 #[.slice a len cap, .int .i64 n, .int .i64 R, .int .i64 m] w fun e w' =>
      (∃ pos : Nat, e = .returned (.tuple #[.bool true, .int .i64 pos]) ∧ pos ≤ len ∧ cf q m n D = some (D.drop pos) ∧ w' = w) ∨ (cf q m n D = none ∧ e = .returned (.tuple #[.bool false, .int .i64 0]) ∧ w' = w) := by
  subst hq
  obtain ⟨hlen, hmax, hcell, hby⟩ := h
  go_enter Yba.func5, Yba.ntmps5
  go_wp2
  go_loop [10, 11] (fun p i => ∃ k pos : Nat, k ≤ n ∧ i = .int .i64 k ∧ p = .int .i64 pos ∧ pos ≤ len ∧ cf q m n D = cf q m (n - k) (D.drop pos)) (fun _ i => n - (intOf i).toNat)
  case atStart => exact ⟨0, 0, Nat.zero_le _, rfl, rfl, Nat.zero_le _, rfl⟩
  case round =>
    obtain ⟨k, pos, hk, rfl, rfl, hpos, hcf⟩ := hrel
    have HC : Hid (cf q m n D = cf q m (n - k) (D.drop pos)) := hcf
    clear hcf
    by_cases hlt : k < n
    · have HC2 : Hid (cf q m n D = if ce (D.drop pos) q = 0 then none else if ((D.drop pos).take q).any (fun x => decide (m ≤ (x : Int))) = true then none else cf q m (n - (k + 1)) ((D.drop pos).drop (ce (D.drop pos) q))) := by
        show _ = _
        rw [HC.out, show n - k = (n - (k + 1)) + 1 by omega, cf_step]
      by_cases h1 : len - pos < q + 1
      · have HF : Hid (cf q m n D = none) := by
          show _ = _
          rw [HC2.out, ce_drop_zero (by simp; omega), if_pos rfl]
        go_wp2
        go_ret2
        exact .inr ⟨HF.out, rfl, rfl⟩
      · obtain ⟨b, off, rfl, hbs, hc⟩ := hcell (by omega)
        go_wp2
        go_loop [12] (fun i => ∃ j : Nat, j ≤ q ∧ i = .int .i64 j ∧ ((D.drop pos).take j).any (fun x => decide (m ≤ (x : Int))) = false) (fun i => q - (intOf i).toNat)
        case atStart => exact ⟨0, Nat.zero_le _, rfl, rfl⟩
        case round =>
          obtain ⟨j, hj, rfl, hany⟩ := hrel
          have HA : Hid (((D.drop pos).take j).any (fun x => decide (m ≤ (x : Int))) = false) := hany
          clear hany
          by_cases hjq : j < q
          · obtain ⟨x, hx⟩ := get_some (D := D) (i := pos + j) (by omega)
            have hxd : (D.drop pos)[j]? = some x := by rw [List.getElem?_drop]; exact hx
            have hcx := hc (pos + j) x hx
            have hxb := hby x (List.mem_of_getElem? hx)
            by_cases hmx : m ≤ (x : Int)
            · have HF : Hid (cf q m n D = none) := by
                show _ = _
                rw [HC2.out]
                split
                · rfl
                · rw [if_pos (any_hit (D.drop pos) m q j x hjq hxd hmx)]
              clear hxd hx
              go_wp2
              go_ret2
              exact .inr ⟨HF.out, rfl, rfl⟩
            · have HF : Hid (((D.drop pos).take (j + 1)).any (fun x => decide (m ≤ (x : Int))) = false) := by
                show _ = _
                rw [any_step (D.drop pos) m j x hxd, HA.out]; simpa using hmx
              clear hxd hx
              go_wp2
              go_round
              case rel => exact ⟨j + 1, by omega, by go_num, HF.out⟩
              case measure => simp [intOf]; omega
          · have hjq' : j = q := by omega
            subst hjq'
            obtain ⟨s, hs⟩ := get_some (D := D) (i := pos + j) (by omega)
            have hsd : (D.drop pos)[j]? = some s := by rw [List.getElem?_drop]; exact hs
            have hcs := hc (pos + j) s hs
            have hsb := hby s (List.mem_of_getElem? hs)
            have hdl : (D.drop pos).length = len - pos := by rw [List.length_drop, hlen]
            by_cases h2 : 128 ≤ s
            · have HF : Hid (cf j m n D = none) := by
                show _ = _
                rw [HC2.out, ce_s hsd (.inl h2), if_pos rfl]
              clear hs hsd hdl
              go_wp2
              go_ret2
              exact .inr ⟨HF.out, rfl, rfl⟩
            by_cases h3 : len ≤ pos + (j + 1) + s
            · have HF : Hid (cf j m n D = none) := by
                show _ = _
                rw [HC2.out, ce_s hsd (.inr (by omega)), if_pos rfl]
              clear hs hsd hdl
              go_wp2
              go_ret2
              exact .inr ⟨HF.out, rfl, rfl⟩
            obtain ⟨c, hcc⟩ := get_some (D := D) (i := pos + (j + 1) + s) (by omega)
            have hcd : (D.drop pos)[j + 1 + s]? = some c := by rw [List.getElem?_drop, show pos + (j + 1 + s) = pos + (j + 1) + s by omega]; exact hcc
            have hccs := hc (pos + (j + 1) + s) c hcc
            have hcb := hby c (List.mem_of_getElem? hcc)
            by_cases h4 : 128 ≤ c
            · have HF : Hid (cf j m n D = none) := by
                show _ = _
                rw [HC2.out, ce_c hsd hcd (.inl h4), if_pos rfl]
              clear hs hsd hdl hcc hcd
              go_wp2
              go_ret2
              exact .inr ⟨HF.out, rfl, rfl⟩
            by_cases h5 : len < pos + (j + 1) + s + 1 + c * 64
            · have HF : Hid (cf j m n D = none) := by
                show _ = _
                rw [HC2.out, ce_c hsd hcd (.inr (by omega)), if_pos rfl]
              clear hs hsd hdl hcc hcd
              go_wp2
              go_ret2
              exact .inr ⟨HF.out, rfl, rfl⟩
            · have HF : Hid (cf j m n D = cf j m (n - (k + 1)) (D.drop (pos + (j + 1) + s + 1 + c * 64))) := by
                show _ = _
                rw [HC2.out, ce_ok hsd hcd (by omega) (by omega), if_neg (by omega), if_neg (by rw [HA.out]; simp), List.drop_drop, show pos + (j + 1 + s + 1 + c * 64) = pos + (j + 1) + s + 1 + c * 64 by omega]
              clear hs hsd hdl hcc hcd
              go_wp2
              go_round
              case rel => exact ⟨k + 1, pos + (j + 1) + s + 1 + c * 64, by omega, by go_num, by go_num, by omega, HF.out⟩
              case measure => simp [intOf]; omega
    · have hkn : n - k = 0 := by omega
      rw [hkn] at HC
      go_wp2
      go_ret2
      exact .inl ⟨pos, rfl, hpos, HC.out, rfl⟩

theorem model_big (a : Option Addr) (len cap : Nat) (n R m : Int) (hm : 128 < m) (w : World) :
    Calls Yba.prog 5 #[.slice a len cap, .int .i64 n, .int .i64 R, .int .i64 m] w fun e w' => e = .returned (.tuple #[.bool false, .int .i64 0]) ∧ w' = w := by
  go_enter Yba.func5, Yba.ntmps5
  go_wp2
  go_ret2
  exact ⟨rfl, rfl⟩

theorem compact_big (I : Value) (n R m : Int) (hm : 128 < m) (w : World) :
    Calls Yba.prog 6 #[I, .int .i64 n, .int .i64 R, .int .i64 m] w fun e w' => e = .returned (.bool false) ∧ w' = w := by
  go_enter Yba.func6, Yba.ntmps6
  go_wp2
  go_ret
  exact ⟨rfl, rfl⟩

theorem raw_long (a : Option Addr) (len cap : Nat) (cnt rd m : Int) (w : World) (h : 4096 < len) :
    Calls Yba.prog 3 #[.slice a len cap, .int .u8 cnt, .int .u8 rd, .int .i64 m] w fun e w' => e = .returned (.bool true) ∧ Below w.heap.size w w' := by
  go_enter Yba.func3, Yba.ntmps3
  go_wp2
  go_ret
  exact ⟨rfl, Below.refl _ _⟩

theorem IsB.setCell {w : World} {a : Option Addr} {len : Nat} {D : List Nat} (h : IsB w a len D) {I : Nat} {x : Option Addr} {n c : Nat} (hI : w.cell? ⟨I, 0, none⟩ = some (.slice x n c)) (u : Value) : IsB (w.setCell ⟨I, 0, none⟩ u) a len D := by
  obtain ⟨h1, h2, h3, h4⟩ := h
  refine ⟨h1, h2, fun hl => ?_, h4⟩
  obtain ⟨b, off, e, hbl, hc⟩ := h3 hl
  refine ⟨b, off, e, by simpa [World.setCell] using hbl, fun i y hy => ?_⟩
  rw [World.cell?_setCell_other]
  · exact hc i y hy
  · intro e'
    have := hc i y hy
    rw [← e', hI] at this
    simp at this

set_option maxHeartbeats 4000000 in
set_option maxRecDepth 100000 in
theorem raw_walk (a : Option Addr) (len cap : Nat) (hlc : len ≤ cap) (hcm : cap ≤ maxLen) (D : List Nat) (cnt rd m : Int) (w : World) (hl : len ≤ 4096) (hc0 : 0 ≤ cnt) (hc1 : cnt ≤ 255) (hr0 : 0 ≤ rd) (hr1 : rd ≤ 255) (h : IsB w a len D) :
    Calls Yba.prog 3 #[.slice a len cap, .int .u8 cnt, .int .u8 rd, .int .i64 m] w fun e w' => e = .returned (.bool true) ∧ Below w.heap.size w w' := by
  obtain ⟨q, hq4, hq⟩ : ∃ q : Nat, q ≤ 4 ∧ rd % 5 = (q : Int) := ⟨(rd % 5).toNat, by omega, by omega⟩
  obtain ⟨n, hn7, hn⟩ : ∃ n : Nat, n ≤ 7 ∧ cnt % 8 = (n : Int) := ⟨(cnt % 8).toNat, by omega, by omega⟩
  have hbx := (Below.refl w.heap.size w).alloc (Nat.le_refl _) (Obj.cells #[.slice a len cap, .nilIface] 29)
  have hB2 := h.below hbx (Nat.le_refl _)
  have hI0 : (w.alloc (Obj.cells #[.slice a len cap, .nilIface] 29)).cell? ⟨w.heap.size, 0, none⟩ = some (.slice a len cap) := by simp [go_sem]
  have hI1 : (w.alloc (Obj.cells #[.slice a len cap, .nilIface] 29)).cell? ⟨w.heap.size, 1, none⟩ = some .nilIface := by simp [go_sem]
  have hIf : (w.alloc (Obj.cells #[.slice a len cap, .nilIface] 29)).frozen? ⟨w.heap.size, 0, none⟩ = false := by simp [go_sem]
  by_cases hm : 128 < m
  · go_enter Yba.func3, Yba.ntmps3
    go_wp2_with fail
    refine (model_big a len cap _ _ m hm w).mono ?_
    rintro e w1 ⟨rfl, rfl⟩
    go_wp2_with fail
    generalize w1.alloc (Obj.cells #[.slice a len cap, .nilIface] 29) = W at *
    refine (compact_big _ _ _ m hm W).mono ?_
    rintro e w2 ⟨rfl, rfl⟩
    go_wp2_with (refine wpList_neq_nil rfl _ rfl rfl ?_)
    refine (eq_any a a len cap cap D _ hB2 hB2).mono ?_
    rintro e w4 ⟨rfl, mm, rfl⟩
    go_wp2
    go_ret
    exact ⟨rfl, below_drewN hbx _⟩
  · go_enter Yba.func3, Yba.ntmps3
    go_wp2_with fail
    refine (model_any a len cap D n hn7 (1 + (q : Int)) q (by omega) hq4 m (by omega) hl w h).mono ?_
    rintro e w1 (⟨pos, rfl, hpos, hcf, rfl⟩ | ⟨hcf, rfl, rfl⟩)
    · have HC : Hid (cf q m n D = some (D.drop pos)) := hcf
      clear hcf
      go_wp2_with fail
      generalize w1.alloc (Obj.cells #[.slice a len cap, .nilIface] 29) = W at *
      refine (compact_any w1.heap.size a len cap D n (by unfold maxLen; omega) (1 + (q : Int)) q (by omega) hq4 m (by omega) W hI0 hIf hlc hcm hB2).mono ?_
      rintro e w3 (⟨rest, hcf, rfl, a', hB3, cap', rfl⟩ | ⟨hcf, rfl, rfl⟩)
      · rw [HC.out] at hcf
        cases hcf
        have hDl : D.length = len := h.1
        have hTl : (D.drop pos).length = len - pos := by rw [List.length_drop, hDl]
        rw [hTl] at hB3 ⊢
        have hB4 := hB3.setCell hI0 (.slice a' (len - pos) cap')
        have hB5 := hB2.setCell hI0 (.slice a' (len - pos) cap')
        have hbx4 := hbx.setCell (p := ⟨w1.heap.size, 0, none⟩) (Nat.le_refl _) (.slice a' (len - pos) cap')
        have hJ0 : (W.setCell ⟨w1.heap.size, 0, none⟩ (.slice a' (len - pos) cap')).cell? ⟨w1.heap.size, 0, none⟩ = some (.slice a' (len - pos) cap') := World.cell?_setCell_same _ _ _ hI0
        have hJ1 : (W.setCell ⟨w1.heap.size, 0, none⟩ (.slice a' (len - pos) cap')).cell? ⟨w1.heap.size, 1, none⟩ = some .nilIface := by
          rw [World.cell?_setCell_other _ _ _ _ (by simp)]; exact hI1
        have HD : Hid (∀ a'' : Option Addr, (∀ b off, a = some ⟨b, off, none⟩ → pos < len → a'' = some ⟨b, off + pos, none⟩) → IsB (W.setCell ⟨w1.heap.size, 0, none⟩ (.slice a' (len - pos) cap')) a'' (len - pos) (D.drop pos)) := by
          intro a'' ha
          rcases Nat.lt_or_ge pos len with hp | hp
          · obtain ⟨b, off, e, _⟩ := hB5.2.2.1 (by omega)
            subst e
            have := IsB.drop (e := pos) (by rw [hDl]; exact hB5) (by omega) a'' (fun h => ha b off rfl (by omega))
            rwa [hTl] at this
          · have hz : len - pos = 0 := by omega
            rw [hz] at hTl ⊢
            exact ⟨hTl, by unfold maxLen; omega, fun h => absurd h (Nat.lt_irrefl _), hB4.2.2.2⟩
        have HX : Hid (0 < len → ∃ b off, a = some ⟨b, off, none⟩) := fun hp => by
          obtain ⟨b, off, e, _⟩ := h.2.2.1 hp
          exact ⟨b, off, e⟩
        clear hB2 hB3 hI0 hI1 hIf hbx hB5 h HC hTl hDl
        generalize W.setCell ⟨w1.heap.size, 0, none⟩ (.slice a' (len - pos) cap') = W3 at *
        have hsub : (len : Int) - (pos : Int) = ((len - pos : Nat) : Int) := by omega
        have hwr : IntKind.i64.wrap ((len - pos : Nat) : Int) = ((len - pos : Nat) : Int) := by rw [IntKind.wrap_i64]; omega
        have hposI : (pos : Int) ≤ (len : Int) := by omega
        have hpos0 : (0 : Int) ≤ (pos : Int) := by omega
        have hlcI : (len : Int) ≤ (cap : Int) := by omega
        have hpcI : (pos : Int) ≤ (cap : Int) := by omega
        unfold maxLen at hcm
        go_upto_region 12 with (refine wpList_neq_nil rfl _ rfl rfl ?_)
        cases a with
        | none =>
          go_quiet ((go_at_call 7; exact Calls.quiet_of (eq_any a' _ _ cap' _ (D.drop pos) _ hB4 (HD.out _ (fun b off e => by cases e)))))
          go_wp2
          go_ret
          exact ⟨rfl, below_drewN hbx4 _⟩
        | some x =>
          by_cases hl0 : 0 < len
          · obtain ⟨b, off, e⟩ := HX.out hl0
            cases e
            by_cases hcp : cap = pos
            · go_quiet ((go_at_call 7; exact Calls.quiet_of (eq_any a' _ _ cap' _ (D.drop pos) _ hB4 (HD.out _ (fun b' off' e hlt => by omega)))))
              go_wp2
              go_ret
              exact ⟨rfl, below_drewN hbx4 _⟩
            · go_quiet ((go_at_call 7; exact Calls.quiet_of (eq_any a' _ _ cap' _ (D.drop pos) _ hB4 (HD.out _ (fun b' off' e hlt => by cases e; rfl)))))
              go_wp2
              go_ret
              exact ⟨rfl, below_drewN hbx4 _⟩
          · by_cases hcp : cap = pos
            · go_quiet ((go_at_call 7; exact Calls.quiet_of (eq_any a' _ _ cap' _ (D.drop pos) _ hB4 (HD.out _ (fun b' off' e hlt => by omega)))))
              go_wp2
              go_ret
              exact ⟨rfl, below_drewN hbx4 _⟩
            · go_quiet ((go_at_call 7; exact Calls.quiet_of (eq_any a' _ _ cap' _ (D.drop pos) _ hB4 (HD.out _ (fun b' off' e hlt => by omega)))))
              go_wp2
              go_ret
              exact ⟨rfl, below_drewN hbx4 _⟩
      · rw [HC.out] at hcf
        cases hcf
    · have HC : Hid (cf q m n D = none) := hcf
      clear hcf
      go_wp2_with fail
      generalize w1.alloc (Obj.cells #[.slice a len cap, .nilIface] 29) = W at *
      refine (compact_any w1.heap.size a len cap D n (by unfold maxLen; omega) (1 + (q : Int)) q (by omega) hq4 m (by omega) W hI0 hIf hlc hcm hB2).mono ?_
      rintro e w3 (⟨rest, hcf, rfl, a', hB3, cap', rfl⟩ | ⟨hcf, rfl, rfl⟩)
      · rw [HC.out] at hcf
        cases hcf
      · clear hcf
        go_wp2_with (refine wpList_neq_nil rfl _ rfl rfl ?_)
        refine (eq_any a a len cap cap D _ hB2 hB2).mono ?_
        rintro e w4 ⟨rfl, mm, rfl⟩
        go_wp2
        go_ret
        exact ⟨rfl, below_drewN hbx _⟩
end Go.Proofs.Ybulkbiok
