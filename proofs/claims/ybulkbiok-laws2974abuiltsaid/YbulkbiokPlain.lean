/-
  THE PLAIN LAW: messages laid out compactly are read whole, and the tail is left.
-/
import Derived.Test.YbulkbiokCompact
namespace Go.Proofs.Ybulkbiok

/-- A message: its path, size, sigs, fill. -/
def pth (q M : Nat) (P : List Nat) : List Nat := (List.range q).map fun k => if k < P.length then P[k]?.getD 0 % M else 0
def encM (q M : Nat) (e : List Nat × Nat × Nat × Nat) : List Nat :=
  pth q M e.1 ++ (e.2.1 % 12 :: (List.replicate (e.2.1 % 12) e.2.2.2 ++ (e.2.2.1 % 3 :: List.replicate (e.2.2.1 % 3 * 64) e.2.2.2)))
def enc (q M : Nat) (Ms : List (List Nat × Nat × Nat × Nat)) : List Nat := Ms.flatMap (encM q M)

theorem pth_len (q M : Nat) (P : List Nat) : (pth q M P).length = q := by simp [pth]
theorem pth_lt (q M : Nat) (hM : 0 < M) (P : List Nat) : ∀ x ∈ pth q M P, x < M := by
  intro x hx
  simp only [pth, List.mem_map] at hx
  obtain ⟨k, _, rfl⟩ := hx
  split
  · exact Nat.mod_lt _ hM
  · exact hM

theorem ce_lay (A F G rest : List Nat) (q s c : Nat) (hA : A.length = q) (hF : F.length = s) (hG : G.length = c * 64) (hs : s < 128) (hc : c < 128) :
    ce (A ++ (s :: (F ++ (c :: (G ++ rest))))) q = q + 1 + s + 1 + c * 64 := by
  have hl : (A ++ (s :: (F ++ (c :: (G ++ rest))))).length = q + 1 + s + 1 + c * 64 + rest.length := by simp; omega
  have h1 : (A ++ (s :: (F ++ (c :: (G ++ rest)))))[q]? = some s := by
    rw [List.getElem?_append_right (by omega), hA]; simp
  have h2 : (A ++ (s :: (F ++ (c :: (G ++ rest)))))[q + 1 + s]? = some c := by
    rw [List.getElem?_append_right (by omega), hA, show q + 1 + s - q = s + 1 by omega, List.getElem?_cons_succ, List.getElem?_append_right (by omega), hF]; simp
  unfold ce
  rw [hl, h1]
  simp only [Option.getD_some]
  rw [h2]
  simp only [Option.getD_some]
  rw [if_neg (by omega), if_neg (by omega), if_neg (by omega)]

theorem cf_enc (q M : Nat) (hM : 0 < M) (tail : List Nat) : ∀ Ms : List (List Nat × Nat × Nat × Nat), cf q (M : Int) Ms.length (enc q M Ms ++ tail) = some tail
  | [] => rfl
  | e :: Ms => by
    have ih := cf_enc q M hM tail Ms
    have hx : enc q M (e :: Ms) ++ tail = pth q M e.1 ++ (e.2.1 % 12 :: (List.replicate (e.2.1 % 12) e.2.2.2 ++ (e.2.2.1 % 3 :: (List.replicate (e.2.2.1 % 3 * 64) e.2.2.2 ++ (enc q M Ms ++ tail))))) := by
      simp [enc, encM]
    have hce := ce_lay (pth q M e.1) (List.replicate (e.2.1 % 12) e.2.2.2) (List.replicate (e.2.2.1 % 3 * 64) e.2.2.2) (enc q M Ms ++ tail) q (e.2.1 % 12) (e.2.2.1 % 3) (pth_len _ _ _) (by simp) (by simp) (by omega) (by omega)
    rw [hx, List.length_cons, cf_step, hce, if_neg (by omega)]
    have htk : (pth q M e.1 ++ (e.2.1 % 12 :: (List.replicate (e.2.1 % 12) e.2.2.2 ++ (e.2.2.1 % 3 :: (List.replicate (e.2.2.1 % 3 * 64) e.2.2.2 ++ (enc q M Ms ++ tail)))))).take q = pth q M e.1 := by
      rw [List.take_append_of_le_length (by rw [pth_len]; exact Nat.le_refl _), List.take_of_length_le (by rw [pth_len]; exact Nat.le_refl _)]
    have hany : (pth q M e.1).any (fun x => decide ((M : Int) ≤ (x : Int))) = false := by
      rw [List.any_eq_false]
      intro x hx
      have := pth_lt q M hM e.1 x hx
      simp; omega
    rw [htk, hany, if_neg (by simp)]
    have hdr : (pth q M e.1 ++ (e.2.1 % 12 :: (List.replicate (e.2.1 % 12) e.2.2.2 ++ (e.2.2.1 % 3 :: (List.replicate (e.2.2.1 % 3 * 64) e.2.2.2 ++ (enc q M Ms ++ tail)))))).drop (q + 1 + e.2.1 % 12 + 1 + e.2.2.1 % 3 * 64) = enc q M Ms ++ tail := by
      have : q + 1 + e.2.1 % 12 + 1 + e.2.2.1 % 3 * 64 = (pth q M e.1 ++ (e.2.1 % 12 :: (List.replicate (e.2.1 % 12) e.2.2.2 ++ (e.2.2.1 % 3 :: List.replicate (e.2.2.1 % 3 * 64) e.2.2.2)))).length := by
        simp [pth_len]; omega
      rw [this]
      have e2 : (pth q M e.1 ++ (e.2.1 % 12 :: (List.replicate (e.2.1 % 12) e.2.2.2 ++ (e.2.2.1 % 3 :: (List.replicate (e.2.2.1 % 3 * 64) e.2.2.2 ++ (enc q M Ms ++ tail)))))) = (pth q M e.1 ++ (e.2.1 % 12 :: (List.replicate (e.2.1 % 12) e.2.2.2 ++ (e.2.2.1 % 3 :: List.replicate (e.2.2.1 % 3 * 64) e.2.2.2)))) ++ (enc q M Ms ++ tail) := by simp
      rw [e2, List.drop_left]
    rw [hdr]
    exact ih

theorem encM_lt (q M : Nat) (hM : 0 < M) (hM2 : M ≤ 128) (e : List Nat × Nat × Nat × Nat) (he : e.2.2.2 < 256) : ∀ x ∈ encM q M e, x < 256 := by
  intro x hx
  simp only [encM, List.mem_append, List.mem_cons, List.mem_replicate] at hx
  rcases hx with hx | hx | hx | hx | hx
  · have := pth_lt q M hM e.1 x hx; omega
  · omega
  · omega
  · omega
  · omega

theorem enc_lt (q M : Nat) (hM : 0 < M) (hM2 : M ≤ 128) (Ms : List (List Nat × Nat × Nat × Nat)) (h : ∀ e ∈ Ms, e.2.2.2 < 256) : ∀ x ∈ enc q M Ms, x < 256 := by
  intro x hx
  simp only [enc, List.mem_flatMap] at hx
  obtain ⟨e, he, hx⟩ := hx
  exact encM_lt q M hM hM2 e (h e he) x hx

theorem encM_len (q M : Nat) (e : List Nat × Nat × Nat × Nat) (hq : q ≤ 4) : (encM q M e).length ≤ 145 := by
  simp [encM, pth_len]; omega

theorem enc_len (q M : Nat) (hq : q ≤ 4) : ∀ Ms : List (List Nat × Nat × Nat × Nat), (enc q M Ms).length ≤ 145 * Ms.length
  | [] => by simp [enc]
  | e :: Ms => by
    have := enc_len q M hq Ms
    have := encM_len q M e hq
    simp [enc] at *
    omega

theorem enc_snoc (q M : Nat) (Ms : List (List Nat × Nat × Nat × Nat)) (k : Nat) (e : List Nat × Nat × Nat × Nat) (h : Ms[k]? = some e) : enc q M (Ms.take (k + 1)) = enc q M (Ms.take k) ++ encM q M e := by
  have hn : k < Ms.length := by
    rcases Nat.lt_or_ge k Ms.length with h' | h'
    · exact h'
    · rw [List.getElem?_eq_none h'] at h; cases h
  have he : Ms[k] = e := by rw [List.getElem?_eq_getElem hn] at h; simpa using h
  rw [List.take_succ_eq_append_getElem hn, he]
  simp [enc]

theorem pth_take (q M : Nat) (P : List Nat) (k : Nat) (h : k < q) : (pth q M P).take (k + 1) = (pth q M P).take k ++ [if k < P.length then P[k]?.getD 0 % M else 0] := by
  have hl := pth_len q M P
  rw [List.take_succ_eq_append_getElem (by omega)]
  simp [pth]
end Go.Proofs.Ybulkbiok
