/-
  '(*decoder).compact' BY ITS CONTRACT.
-/
import Derived.Test.YbulkbiokBytes
namespace Go.Proofs.Ybulkbiok
open Go Go.RowKit

/-- What is left behind n compact messages of round q + 1 among m members; none where one is not compact. -/
def cf (q : Nat) (m : Int) : Nat → List Nat → Option (List Nat)
  | 0, D => some D
  | n + 1, D => if ce D q = 0 then none else if (D.take q).any (fun x => decide (m ≤ (x : Int))) = true then none else cf q m n (D.drop (ce D q))

theorem ce_bounds {D : List Nat} {q : Nat} (h : ce D q ≠ 0) : q + 2 ≤ ce D q ∧ ce D q ≤ D.length := by
  unfold ce at h ⊢
  split at h
  · omega
  · rw [if_neg (by assumption)]
    split at h
    · omega
    · rw [if_neg (by assumption)]
      split at h
      · omega
      · rw [if_neg (by assumption)]
        omega

theorem cf_step (q : Nat) (m : Int) (n : Nat) (D : List Nat) : cf q m (n + 1) D = if ce D q = 0 then none else if (D.take q).any (fun x => decide (m ≤ (x : Int))) = true then none else cf q m n (D.drop (ce D q)) := rfl

theorem any_step (D : List Nat) (m : Int) (i x : Nat) (h : D[i]? = some x) : (D.take (i + 1)).any (fun x => decide (m ≤ (x : Int))) = ((D.take i).any (fun x => decide (m ≤ (x : Int))) || decide (m ≤ (x : Int))) := by
  have hn : i < D.length := by
    rcases Nat.lt_or_ge i D.length with h' | h'
    · exact h'
    · rw [List.getElem?_eq_none h'] at h; cases h
  have he : D[i] = x := by rw [List.getElem?_eq_getElem hn] at h; simpa using h
  rw [List.take_succ_eq_append_getElem hn, List.any_append, List.any_cons, List.any_nil, Bool.or_false, he]

theorem any_hit (D : List Nat) (m : Int) (q i x : Nat) (hi : i < q) (h : D[i]? = some x) (hx : m ≤ (x : Int)) : (D.take q).any (fun x => decide (m ≤ (x : Int))) = true := by
  rw [List.any_eq_true]
  refine ⟨x, ?_, by simpa using hx⟩
  have : (D.take q)[i]? = some x := by rw [List.getElem?_take_of_lt hi]; exact h
  exact List.mem_of_getElem? this

/-- b[e:] is a slice of bytes too. -/
theorem IsB.drop {w : World} {b off e : Nat} {D : List Nat} (h : IsB w (some ⟨b, off, none⟩) D.length D) (he : e ≤ D.length) (a' : Option Addr) (ha : e < D.length → a' = some ⟨b, off + e, none⟩) :
    IsB w a' (D.drop e).length (D.drop e) := by
  obtain ⟨_, h2, h3, h4⟩ := h
  have hl : (D.drop e).length = D.length - e := List.length_drop
  refine ⟨rfl, by omega, fun hp => ?_, fun x hx => h4 x (List.mem_of_mem_drop hx)⟩
  obtain ⟨b', off', e', hb', hc'⟩ := h3 (by omega)
  cases e'
  refine ⟨b, off + e, ha (by omega), hb', fun i x hx => ?_⟩
  rw [List.getElem?_drop] at hx
  have := hc' _ x hx
  rw [← Nat.add_assoc] at this
  exact this

set_option maxHeartbeats 1000000 in
set_option maxRecDepth 100000 in
theorem compact_any (I : Nat) (a : Option Addr) (len cap : Nat) (D : List Nat) (n : Nat) (hn : n ≤ maxLen) (R : Int) (q : Nat) (hq : R = (q : Int) + 1) (hq4 : q ≤ 4) (m : Int) (hm : m ≤ 128) (w : World)
    (hI : w.cell? ⟨I, 0, none⟩ = some (.slice a len cap)) (hfz : w.frozen? ⟨I, 0, none⟩ = false) (hlc : len ≤ cap) (hcm : cap ≤ maxLen) (h : IsB w a len D) :
    Calls Yba.prog 6 #[.pointer (some ⟨I, 0, none⟩), .int .i64 n, .int .i64 R, .int .i64 m] w fun e w' =>
      (∃ rest, cf q m n D = some rest ∧ e = .returned (.bool true) ∧ ∃ a', IsB w a' rest.length rest ∧ ∃ cap', w' = w.setCell ⟨I, 0, none⟩ (.slice a' rest.length cap')) ∨ (cf q m n D = none ∧ e = .returned (.bool false) ∧ w' = w) := by
  have hlen := h.1
  subst hlen
  subst hq
  unfold maxLen at hn hcm
  go_enter Yba.func6, Yba.ntmps6
  go_wp2
  go_loop [9, 20] (fun b i => ∃ (k : Nat) (D' : List Nat) (a' : Option Addr) (cap' : Nat), k ≤ n ∧ i = .int .i64 k ∧ b = .slice a' D'.length cap' ∧ D'.length ≤ cap' ∧ cap' ≤ 2 ^ 63 - 1 ∧ IsB w a' D'.length D' ∧ cf q m n D = cf q m (n - k) D') (fun _ i => n - (intOf i).toNat)
  case atStart => exact ⟨0, D, a, cap, Nat.zero_le _, rfl, rfl, hlc, hcm, h, rfl⟩
  case round =>
    obtain ⟨k, D', a', cap', hk, rfl, rfl, hlc', hcm', hB, hcf⟩ := hrel
    have HC : Hid (cf q m n D = cf q m (n - k) D') := hcf
    clear hcf
    by_cases hlt : k < n
    · have HC2 : Hid (cf q m n D = if ce D' q = 0 then none else if (D'.take q).any (fun x => decide (m ≤ (x : Int))) = true then none else cf q m (n - (k + 1)) (D'.drop (ce D' q))) := by
        show _ = _
        rw [HC.out, show n - k = (n - (k + 1)) + 1 by omega, cf_step]
      have hceb := @ce_bounds D' q
      go_wp2_with fail
      refine (ce_any a' D'.length cap' D' _ q rfl hq4 w hB).mono ?_
      rintro e w' ⟨rfl, rfl⟩
      by_cases h0 : ce D' q = 0
      · rw [if_pos h0] at HC2
        rw [h0]
        clear hceb
        go_wp2
        go_ret
        exact .inr ⟨HC2.out, rfl, rfl⟩
      · rw [if_neg h0] at HC2
        obtain ⟨hb1, hb2⟩ := hceb h0
        clear hceb
        obtain ⟨b, off, rfl, hbs, hcell⟩ := hB.2.2.1 (by omega)
        have hdr : ∀ a'' : Option Addr, (ce D' q < D'.length → a'' = some ⟨b, off + ce D' q, none⟩) → IsB w' a'' (D'.drop (ce D' q)).length (D'.drop (ce D' q)) := fun a'' ha => IsB.drop hB hb2 a'' ha
        have HD : Hid (∀ a'' : Option Addr, (ce D' q < D'.length → a'' = some ⟨b, off + ce D' q, none⟩) → IsB w' a'' (D'.drop (ce D' q)).length (D'.drop (ce D' q))) := hdr
        have HL : Hid ((D'.drop (ce D' q)).length = D'.length - ce D' q) := List.length_drop
        clear hdr
        generalize D'.drop (ce D' q) = D2 at *
        generalize ce D' q = E at *
        have hE0 : ((E : Int) == 0) = false := by simp; omega
        go_wp2
        go_loop [32] (fun i => ∃ j : Nat, j ≤ q ∧ i = .int .i64 j ∧ (D'.take j).any (fun x => decide (m ≤ (x : Int))) = false) (fun i => q - (intOf i).toNat)
        case atStart => exact ⟨0, Nat.zero_le _, rfl, rfl⟩
        case round =>
          obtain ⟨j, hj, rfl, hany⟩ := hrel
          have HA : Hid ((D'.take j).any (fun x => decide (m ≤ (x : Int))) = false) := hany
          clear hany
          by_cases hjq : j < q
          · obtain ⟨x, hx⟩ := get_some (D := D') (i := j) (by omega)
            have hcx := hcell j x hx
            have hxb := hB.2.2.2 x (List.mem_of_getElem? hx)
            by_cases hmx : m ≤ (x : Int)
            · have HF : Hid ((D'.take q).any (fun x => decide (m ≤ (x : Int))) = true) := any_hit D' m q j x hjq hx hmx
              go_wp2
              go_ret
              exact .inr ⟨by rw [HC2.out, if_pos HF.out], rfl, rfl⟩
            · have HF : Hid ((D'.take (j + 1)).any (fun x => decide (m ≤ (x : Int))) = false) := by
                show _ = _
                rw [any_step D' m j x hx, HA.out]; simpa using hmx
              go_wp2
              go_round
              case rel => exact ⟨j + 1, by omega, by go_num, HF.out⟩
              case measure => simp [intOf]; omega
          · have hjq' : j = q := by omega
            subst hjq'
            rw [if_neg (by rw [HA.out]; simp)] at HC2
            go_wp2
            go_round
            case rel => exact ⟨k + 1, D2, _, cap' - E, by omega, by go_num, by rw [HL.out], by rw [HL.out]; omega, by omega, HD.out _ (fun h => if_neg (by omega)), HC2.out⟩
            case measure => simp [intOf]; omega
    · have hkn : n - k = 0 := by omega
      rw [hkn] at HC
      go_wp2
      go_ret
      exact .inl ⟨D', HC.out, rfl, a', hB, cap', rfl⟩
end Go.Proofs.Ybulkbiok
