/-
  THE WALK OF 'LawS2974ABuilt'.
-/
import Derived.Test.YbulkbiokPlain
import Derived.Test.YbulkbiokNil
import Derived.Deep.AppendSrc
import Derived.OwnWalk
import Derived.Deep.WholeRow
import Derived.Deep.DeepMust
import Derived.Deep.DeepCutAuto
namespace Go.Proofs.Ybulkbiok
open Go Go.RowKit

def B8 (x : Nat) : Value := .int .u8 (x : Int)

/-- 'msgs' as it is read. -/
def IsMsgs (w : World) (a : Option Addr) (len : Nat) (Ms : List (List Nat × Nat × Nat × Nat)) : Prop :=
  Ms.length = len ∧ len ≤ maxLen ∧ (0 < len → ∃ b off, a = some ⟨b, off, none⟩ ∧ b < w.heap.size ∧ ∀ (i : Nat) e, Ms[i]? = some e →
    (∃ pa pc, w.cell? ⟨b, off + i * 4, none⟩ = some (.slice pa e.1.length pc) ∧ IsB w pa e.1.length e.1) ∧ w.cell? ⟨b, off + i * 4 + 1, none⟩ = some (.int .u8 (e.2.1 : Int)) ∧ w.cell? ⟨b, off + i * 4 + 2, none⟩ = some (.int .u8 (e.2.2.1 : Int)) ∧ w.cell? ⟨b, off + i * 4 + 3, none⟩ = some (.int .u8 (e.2.2.2 : Int))) ∧
  ∀ e ∈ Ms, e.2.1 < 256 ∧ e.2.2.1 < 256 ∧ e.2.2.2 < 256

theorem inf5 : (Yba.prog.info? 5).map (fun i => (i.zero, i.size, i.bytes)) = some (some (.int .u8 0), 1, 1) := by kernel_rfl

/-- The four cells of a message's own copy. -/
theorem four {w : World} {g : Nat} {c0 c1 c2 c3 : Value} (h : w.heap[g]? = some (.cells #[c0, c1, c2, c3] 35)) : w.cell? ⟨g, 0, none⟩ = some c0 ∧ w.cell? ⟨g, 1, none⟩ = some c1 ∧ w.cell? ⟨g, 2, none⟩ = some c2 ∧ w.cell? ⟨g, 3, none⟩ = some c3 := by
  simp [World.cell?, h]

theorem block_lt {w : World} {b : Nat} {o : Obj} (h : w.heap[b]? = some o) : b < w.heap.size := by
  rcases Nat.lt_or_ge b w.heap.size with h' | h'
  · exact h'
  · rw [Array.getElem?_eq_none h'] at h; cases h

/-- The bytes' row is not the message's copy. -/
theorem row_apart {wr : World} {base n g : Nat} {v : Value} {xs : List Value} {c : Array Value} (h : wr.ownsRow base 5 1 v n xs) (hg : wr.heap[g]? = some (.cells c 35)) : some g ≠ v.ownBlock := by
  obtain ⟨_, h⟩ := h
  rcases h with ⟨rfl, _⟩ | ⟨b, cap, cur, rfl, _, hh, _⟩
  · simp [Value.ownBlock]
  · intro e
    simp only [Value.ownBlock, Option.some.injEq] at e
    subst e
    rw [hh] at hg
    simp at hg

theorem row_block {wr : World} {base e s n k : Nat} {v : Value} {xs : List Value} (h : wr.ownsRow base e s v n xs) (hk : v.ownBlock = some k) : base ≤ k := by
  obtain ⟨_, h⟩ := h
  rcases h with ⟨rfl, _⟩ | ⟨g, cap, cur, rfl, hg, _⟩
  · simp [Value.ownBlock] at hk
  · simp [Value.ownBlock] at hk
    omega

/-- One append to the call's own bytes: what becomes of the relation. -/
theorem app_step {w wr w1 : World} {o : Obj} {v : Value} {n g : Nat} {xs : List Value} {c : Array Value} (hb : Below w.heap.size w wr) (hg : wr.heap[g]? = some (.cells c 35)) (hown : wr.ownsRow w.heap.size 5 1 v n xs)
    (hgrow : (wr.alloc o).grownBy w1 v.ownBlock) : Below w.heap.size w w1 ∧ w1.heap[g]? = some (.cells c 35) := by
  have hz := hb.size
  refine ⟨(hb.alloc hz _).grown hgrow (by simp; omega) (fun k hk => row_block hown hk), ?_⟩
  have hlt := block_lt hg
  rw [hgrow.block g (by simp; omega) (row_apart hown hg)]
  exact (Below.heap_alloc _ _ _ hlt).trans hg

theorem run_append_none (t e : TypeId) (i : TypeInfo) (ht : Yba.prog.underlying t = some (.slice e)) (hi : Yba.prog.info? e = some i) (base : Option Addr) (n cap c : Nat) (hn : n ≤ cap) (ty : TypeId) (w : World) :
    (Builtin.append_ #[t, t] ty #[.slice base n cap, .slice none 0 c]).run Yba.prog w = .ok (.slice base n cap) w := by
  cases base <;> simp [Builtin.append_, run_underlying ht, sizeOf, typeInfo, hi, Builtin.lenOf, Builtin.firstCells, hn, storeCells]

theorem row_slice {wr : World} {base n : Nat} {v : Value} {xs : List Value} (h : wr.ownsRow base 5 1 v n xs) : ∃ a cap, v = .slice a n cap ∧ n ≤ cap ∧ cap ≤ maxLen := by
  obtain ⟨_, h⟩ := h
  rcases h with ⟨rfl, rfl⟩ | ⟨g, cap, cur, rfl, _, _, hn, hm, _⟩
  · exact ⟨none, 0, rfl, Nat.le_refl _, by unfold maxLen; omega⟩
  · exact ⟨_, cap, rfl, hn, hm⟩

/-- The call's own bytes, as a callee is told of them. -/
theorem bytes_of_row {wr : World} {base n cap : Nat} {a : Option Addr} {D : List Nat} (h : wr.ownsRow base 5 1 (.slice a n cap) n (D.map B8)) (hD : ∀ x ∈ D, x < 256) : IsB wr a n D := by
  obtain ⟨hl, h⟩ := h
  have hlen : D.length = n := by simpa using hl
  rcases h with ⟨hv, rfl⟩ | ⟨g, cap', cur, hv, _, hh, hn, hm, _, hc⟩
  · exact ⟨hlen, by unfold maxLen; omega, fun h => absurd h (Nat.lt_irrefl _), hD⟩
  · simp only [Value.slice.injEq] at hv
    obtain ⟨rfl, _, rfl⟩ := hv
    refine ⟨hlen, Nat.le_trans hn hm, fun _ => ⟨g, 0, rfl, block_lt hh, fun i x hx => ?_⟩, hD⟩
    have hi : i < n := by
      rcases Nat.lt_or_ge i n with h | h
      · exact h
      · rw [List.getElem?_eq_none (by omega)] at hx; cases hx
    have e1 : (cur.toList.take (n * 1))[i]? = some (B8 x) := by rw [hc, List.getElem?_map, hx]; rfl
    rw [List.getElem?_take_of_lt (by omega)] at e1
    simp only [World.cell?, hh, Nat.zero_add]
    simpa [B8] using e1

theorem IsB.setCell {w : World} {a : Option Addr} {len : Nat} {D : List Nat} (h : IsB w a len D) {I : Nat} {x : Option Addr} {n c : Nat} (hI : w.cell? ⟨I, 0, none⟩ = some (.slice x n c)) (u : Value) : IsB (w.setCell ⟨I, 0, none⟩ u) a len D := by
  obtain ⟨h1, h2, h3, h4⟩ := h
  refine ⟨h1, h2, fun hl => ?_, h4⟩
  obtain ⟨b, off, e, hbl, hc⟩ := h3 hl
  refine ⟨b, off, e, by simpa [World.setCell] using hbl, fun i y hy => ?_⟩
  rw [World.cell?_setCell_other]
  · exact hc i y hy
  · intro e'
    have := hc i y hy
    rw [← e', hI] at this
    simp at this

theorem addr_plain (b off i : Nat) : (⟨b, off, none⟩ : Addr).add i = ⟨b, off + i, none⟩ := by
  unfold Addr.add
  split <;> simp_all

/-- append(buf, tail...): whatever the tail. -/
theorem wpList_append_tail {ops : Array Oper} {rest : List Oper} {o : Oper} {a : Act} {Q : Exit → Act → World → Prop} {w wr : World} (hgd : o.guard = none) (s x : Operand)
    (ho : o.op = .call { callee := .builtin .append, args := #[s, x], argTypes := #[22, 22] })
    (va : Option Addr) (n vcap : Nat) (L T : List Nat) (hs : a.eval s = .slice va n vcap) (hvc : n ≤ vcap) (hvm : vcap ≤ maxLen) (hown : wr.ownsRow w.heap.size 5 1 (.slice va n vcap) n (L.map B8))
    (ta : Option Addr) (tl tc : Nat) (hx : a.eval x = .slice ta tl tc) (hT : IsB wr ta tl T) (hn : n ≤ 100000) (ht : tl ≤ 4096) (hb : Below w.heap.size w wr)
    (h : ∀ va' vcap' w', w'.ownsRow w.heap.size 5 1 (.slice va' (n + tl) vcap') (n + tl) ((L ++ T).map B8) → n + tl ≤ vcap' → vcap' ≤ maxLen → Below w.heap.size w w' → wpList Yba.prog ops Q rest (a.put o.dst (.slice va' (n + tl) vcap')) w') : wpList Yba.prog ops Q (o :: rest) a wr := by
  obtain ⟨i0, hi, hz0, hz1, hz2⟩ := info_parts inf5
  obtain ⟨hTl, _, hTc, _⟩ := hT
  have hz := hb.size
  cases ta with
  | none =>
    have ht0 : tl = 0 := by
      rcases Nat.eq_zero_or_pos tl with h0 | h0
      · exact h0
      · obtain ⟨_, _, e, _⟩ := hTc h0; cases e
    subst ht0
    obtain rfl : T = [] := List.length_eq_zero_iff.1 hTl
    refine wpList_plain hgd fun K hK => ?_
    unfold Oper.wp
    simp [execOp, ho, resolve, invoke, builtin, hs, hx, run_append_none 22 5 i0 Yba.underlying22 hi va n vcap tc hvc, Result.andThen]
    exact hK _ _ (h _ _ _ (by simpa using hown) hvc hvm hb)
  | some ad =>
    refine wpList_append_own _ hgd s x 22 ho w.heap.size 5 i0 (.int .u8 0) 1 1 Yba.underlying22 hi hz0 hz1 hz2 rfl (by decide) _ n _ hs hown ad tl tc (T.map B8) hx (by simp [hTl]) ?_ ?_ (by unfold maxLen; omega) (by omega) (by omega) ?_
    · intro j u hj
      rw [List.getElem?_map] at hj
      obtain ⟨y, hy, rfl⟩ := Option.map_eq_some_iff.1 hj
      have hjl : j < T.length := by
        rcases Nat.lt_or_ge j T.length with h' | h'
        · exact h'
        · rw [List.getElem?_eq_none h'] at hy; cases hy
      obtain ⟨b, off, e, _, hc⟩ := hTc (by omega)
      cases e
      rw [addr_plain]
      exact hc j y hy
    · intro u hu
      obtain ⟨y, _, rfl⟩ := List.mem_map.1 hu
      rfl
    · intro v' w' h1 h2 _
      obtain ⟨va', vcap', rfl, hc1, hc2⟩ := row_slice h1
      exact h va' vcap' w' (by rw [List.map_append]; exact h1) hc1 hc2 (hb.grown h2 hz (fun k hk => row_block hown hk))

theorem built_long (ma : Option Addr) (ml mc : Nat) (ta : Option Addr) (tl tc : Nat) (rd md : Int) (w : World) (h : 300 < ml ∨ 4096 < tl) :
    Calls Yba.prog 4 #[.slice ma ml mc, .slice ta tl tc, .int .u8 rd, .int .u8 md] w fun e w' => e = .returned (.bool true) ∧ Below w.heap.size w w' := by
  by_cases h1 : 300 < ml
  · go_enter Yba.func4, Yba.ntmps4
    go_wp2
    go_ret
    exact ⟨rfl, Below.refl _ _⟩
  · have h2 : 4096 < tl := by omega
    go_enter Yba.func4, Yba.ntmps4
    go_wp2
    go_ret
    exact ⟨rfl, Below.refl _ _⟩

set_option maxHeartbeats 4000000 in
set_option maxRecDepth 100000 in
theorem built_walk (ma : Option Addr) (ml mc : Nat) (Ms : List (List Nat × Nat × Nat × Nat)) (ta : Option Addr) (tl tc : Nat) (T : List Nat) (rd md : Int) (w : World) (h1 : ml ≤ 300) (h2 : tl ≤ 4096)
    (hr0 : 0 ≤ rd) (hr1 : rd ≤ 255) (hm0 : 0 ≤ md) (hm1 : md ≤ 255) (hM : IsMsgs w ma ml Ms) (hT : IsB w ta tl T) :
    Calls Yba.prog 4 #[.slice ma ml mc, .slice ta tl tc, .int .u8 rd, .int .u8 md] w fun e w' => e = .returned (.bool true) ∧ Below w.heap.size w w' := by
  obtain ⟨i0, hi, hz0, hz1, hz2⟩ := info_parts inf5
  obtain ⟨hml, hmm, hmc, hmb⟩ := hM
  obtain ⟨q, hq4, hq⟩ : ∃ q : Nat, q ≤ 4 ∧ rd % 5 = (q : Int) := ⟨(rd % 5).toNat, by omega, by omega⟩
  obtain ⟨M, hM1, hM2, hMM⟩ : ∃ M : Nat, 1 ≤ M ∧ M ≤ 128 ∧ 1 + md % 128 = (M : Int) := ⟨(1 + md % 128).toNat, by omega, by omega, by omega⟩
  go_enter Yba.func4, Yba.ntmps4
  go_wp2
  have HMM : Hid (1 + md % 128 = (M : Int)) := hMM
  clear hq hMM
  go_loopw [11, 40] (fun v i wr => ∃ k : Nat, k ≤ ml ∧ i = .int .i64 k ∧ wr.ownsRow w.heap.size 5 1 v (enc q M (Ms.take k)).length ((enc q M (Ms.take k)).map B8) ∧ Below w.heap.size w wr) (fun _ i _ => ml - (intOf i).toNat)
  case atStart => exact ⟨0, Nat.zero_le _, rfl, World.ownsRow_nil _ _ _ _, Below.refl _ _⟩
  case round =>
    obtain ⟨k, hk, rfl, hown, hbr⟩ := hrel
    by_cases hlt : k < ml
    · obtain ⟨b, off, rfl, hb, hc⟩ := hmc (by omega)
      obtain ⟨⟨P, sz, sg, fl⟩, he⟩ : ∃ e, Ms[k]? = some e := ⟨_, List.getElem?_eq_getElem (by omega)⟩
      obtain ⟨⟨pa, pc, hc0, hP⟩, hc1, hc2, hc3⟩ := hc k _ he
      obtain ⟨hs1, hs2, hs3⟩ := hmb _ (List.mem_of_getElem? he)
      simp only at hc0 hc1 hc2 hc3 hs1 hs2 hs3 hP
      have HS : Hid (enc q M (Ms.take (k + 1)) = enc q M (Ms.take k) ++ encM q M (P, sz, sg, fl)) := enc_snoc q M Ms k _ he
      have hL : (enc q M (Ms.take k)).length ≤ 145 * 300 := by
        have := enc_len q M hq4 (Ms.take k)
        have : (Ms.take k).length ≤ 300 := by simp; omega
        omega
      generalize enc q M (Ms.take k) = L at *
      have hd0 := (hbr.cell (p := ⟨b, off + k * 4, none⟩) hb).trans hc0
      have hd1 := (hbr.cell (p := ⟨b, off + k * 4 + 1, none⟩) hb).trans hc1
      have hd2 := (hbr.cell (p := ⟨b, off + k * 4 + 2, none⟩) hb).trans hc2
      have hd3 := (hbr.cell (p := ⟨b, off + k * 4 + 3, none⟩) hb).trans hc3
      have hzr := hbr.size
      have hbw : b < wr.heap.size := by omega
      clear hmc hmb hc he hc0 hc1 hc2 hc3
      have hg0 : (wr.alloc (Obj.cells #[.slice pa P.length pc, .int .u8 (sz : Int), .int .u8 (sg : Int), .int .u8 (fl : Int)] 35)).heap[wr.heap.size]? = some (.cells #[.slice pa P.length pc, .int .u8 (sz : Int), .int .u8 (sg : Int), .int .u8 (fl : Int)] 35) := heap_alloc_last _ _
      have hown0 := hown.alloc (Obj.cells #[.slice pa P.length pc, .int .u8 (sz : Int), .int .u8 (sg : Int), .int .u8 (fl : Int)] 35)
      have hbr0 := hbr.alloc hbr.size (Obj.cells #[.slice pa P.length pc, .int .u8 (sz : Int), .int .u8 (sg : Int), .int .u8 (fl : Int)] 35)
      go_wp2
      generalize wr.alloc (Obj.cells #[.slice pa P.length pc, .int .u8 (sz : Int), .int .u8 (sg : Int), .int .u8 (fl : Int)] 35) = W1 at *
      clear hd0 hd1 hd2 hd3 hbw
      generalize wr.heap.size = g at *
      go_loopw [11, 14] (fun v i wr => ∃ j : Nat, j ≤ q ∧ i = .int .i64 j ∧ wr.ownsRow w.heap.size 5 1 v (L.length + j) ((L ++ (pth q M P).take j).map B8) ∧ Below w.heap.size w wr ∧ wr.heap[g]? = some (.cells #[.slice pa P.length pc, .int .u8 (sz : Int), .int .u8 (sg : Int), .int .u8 (fl : Int)] 35)) (fun _ i _ => q - (intOf i).toNat)
      case atStart => exact ⟨0, Nat.zero_le _, rfl, by simpa using hown0, hbr0, hg0⟩
      case round =>
        clear hown0 hbr0 hg0 hown hbr
        obtain ⟨j, hj, rfl, hown, hbr, hg⟩ := hrel
        obtain ⟨f0, f1, f2, f3⟩ := four hg
        have hzr2 := hbr.size
        by_cases hjq : j < q
        · have HT := pth_take q M P j hjq
          by_cases hjp : j < P.length
          · obtain ⟨pb, po, rfl, hpb, hpc⟩ := hP.2.2.1 (by omega)
            obtain ⟨x, hx⟩ := get_some (D := P) (i := j) hjp
            have hxb := hP.2.2.2 x (List.mem_of_getElem? hx)
            have hcx := (hbr.cell (p := ⟨pb, po + j, none⟩) hpb).trans (hpc j x hx)
            obtain ⟨y, hyM, hy⟩ : ∃ y : Nat, y < M ∧ (x : Int) % (M : Int) = (y : Int) := ⟨x % M, Nat.mod_lt _ (by omega), by omega⟩
            have HT2 : Hid ((L ++ (pth q M P).take (j + 1)).map B8 = (L ++ (pth q M P).take j).map B8 ++ [B8 y]) := by
              show _ = _
              rw [HT, if_pos hjp, hx, Option.getD_some, show x % M = y by omega, ← List.append_assoc, List.map_append]
              rfl
            clear HT hx hpc
            go_wp2_with (at_builtin; go_must (refine wpList_append_own _ rfl _ _ 22 rfl w.heap.size 5 i0 (.int .u8 0) 1 1 Yba.underlying22 hi hz0 hz1 hz2 rfl (by decide) _ _ _ rfl (hown.alloc _) ⟨wr.heap.size, 0, none⟩ 1 1 [B8 y] rfl rfl (by intro t u ht; match t, ht with | 0, ht => simp at ht; subst ht; simp [Addr.add, B8]) (by intro u hu; simp at hu; subst hu; rfl) (by unfold maxLen; omega) (by omega) (by simp; omega) ?_; intro v' w1 hown' hgrow _))
            have hg2 : (wr.alloc (Obj.cells #[Value.int IntKind.u8 (y : Int)] 5)).grownBy w1 u11.ownBlock := hgrow
            have hst := app_step hbr hg hown hg2
            go_roundw
            case rel => exact ⟨j + 1, by omega, by go_num, HT2.out ▸ hown', hst.1, hst.2⟩
            case measure => simp [intOf]; omega
          · have HT2 : Hid ((L ++ (pth q M P).take (j + 1)).map B8 = (L ++ (pth q M P).take j).map B8 ++ [B8 0]) := by
              show _ = _
              rw [HT, if_neg hjp, ← List.append_assoc, List.map_append]
              rfl
            clear HT
            go_wp2_with (at_builtin; go_must (refine wpList_append_own _ rfl _ _ 22 rfl w.heap.size 5 i0 (.int .u8 0) 1 1 Yba.underlying22 hi hz0 hz1 hz2 rfl (by decide) _ _ _ rfl (hown.alloc _) ⟨wr.heap.size, 0, none⟩ 1 1 [B8 0] rfl rfl (by intro t u ht; match t, ht with | 0, ht => simp at ht; subst ht; simp [Addr.add, B8]) (by intro u hu; simp at hu; subst hu; rfl) (by unfold maxLen; omega) (by omega) (by simp; omega) ?_; intro v' w1 hown' hgrow _))
            have hg2 : (wr.alloc (Obj.cells #[Value.int IntKind.u8 0] 5)).grownBy w1 u11.ownBlock := hgrow
            have hst := app_step hbr hg hown hg2
            go_roundw
            case rel => exact ⟨j + 1, by omega, by go_num, HT2.out ▸ hown', hst.1, hst.2⟩
            case measure => simp [intOf]; omega
        · have hjq' : j = q := by omega
          subst hjq'
          rw [List.take_of_length_le (by rw [pth_len]; exact Nat.le_refl _)] at hown
          have hpl := pth_len j M P
          obtain ⟨s, hs12, hs⟩ : ∃ s : Nat, s < 12 ∧ (sz : Int) % 12 = (s : Int) := ⟨sz % 12, by omega, by omega⟩
          obtain ⟨c, hc3, hc⟩ : ∃ c : Nat, c < 3 ∧ (sg : Int) % 3 = (c : Int) := ⟨sg % 3, by omega, by omega⟩
          have HE : Hid (encM j M (P, sz, sg, fl) = pth j M P ++ (s :: (List.replicate s fl ++ (c :: List.replicate (c * 64) fl)))) := by
            show _ = _
            unfold encM
            rw [show sz % 12 = s by omega, show sg % 3 = c by omega]
          generalize pth j M P = pp at *
          have HM : Hid ((L ++ pp).map B8 ++ [B8 s] = (L ++ pp ++ s :: List.replicate 0 fl).map B8) := by
            show _ = _
            simp
          clear hP
          go_wp2_with (at_builtin; go_must (refine wpList_append_own _ rfl _ _ 22 rfl w.heap.size 5 i0 (.int .u8 0) 1 1 Yba.underlying22 hi hz0 hz1 hz2 rfl (by decide) _ _ _ rfl (hown.alloc _) ⟨wr.heap.size, 0, none⟩ 1 1 [B8 s] rfl rfl (by intro t u ht; match t, ht with | 0, ht => simp at ht; subst ht; simp [Addr.add, B8]) (by intro u hu; simp at hu; subst hu; rfl) (by unfold maxLen; omega) (by omega) (by simp; omega) ?_; intro v' w1 hown' hgrow _))
          have hg2 : (wr.alloc (Obj.cells #[Value.int IntKind.u8 (s : Int)] 5)).grownBy w1 u11.ownBlock := hgrow
          have hst := app_step hbr hg hown hg2
          rw [HM.out] at hown'
          clear hgrow hg2 hbr hg hown f0 f1 f2 f3 HM hzr2
          go_loopw [11, 17] (fun v i wr => ∃ i3 : Nat, i3 ≤ s ∧ i = .int .i64 i3 ∧ wr.ownsRow w.heap.size 5 1 v (L.length + j + 1 + i3) ((L ++ pp ++ s :: List.replicate i3 fl).map B8) ∧ Below w.heap.size w wr ∧ wr.heap[g]? = some (.cells #[.slice pa P.length pc, .int .u8 (sz : Int), .int .u8 (sg : Int), .int .u8 (fl : Int)] 35)) (fun _ i _ => s - (intOf i).toNat)
          case atStart => exact ⟨0, Nat.zero_le _, rfl, hown', hst.1, hst.2⟩
          case round =>
            clear hown' hst
            obtain ⟨i3, hi3, rfl, hown, hbr, hg⟩ := hrel
            obtain ⟨f0, f1, f2, f3⟩ := four hg
            have hzr2 := hbr.size
            by_cases hlt3 : i3 < s
            · have HT2 : Hid ((L ++ pp ++ s :: List.replicate (i3 + 1) fl).map B8 = (L ++ pp ++ s :: List.replicate i3 fl).map B8 ++ [B8 fl]) := by
                show _ = _
                rw [List.replicate_succ']
                simp
              go_wp2_with (at_builtin; go_must (refine wpList_append_own _ rfl _ _ 22 rfl w.heap.size 5 i0 (.int .u8 0) 1 1 Yba.underlying22 hi hz0 hz1 hz2 rfl (by decide) _ _ _ rfl (hown.alloc _) ⟨wr.heap.size, 0, none⟩ 1 1 [B8 fl] rfl rfl (by intro t u ht; match t, ht with | 0, ht => simp at ht; subst ht; simp [Addr.add, B8]) (by intro u hu; simp at hu; subst hu; rfl) (by unfold maxLen; omega) (by omega) (by simp; omega) ?_; intro v' w1 hown' hgrow _))
              have hg2 : (wr.alloc (Obj.cells #[Value.int IntKind.u8 (fl : Int)] 5)).grownBy w1 u11.ownBlock := hgrow
              have hst := app_step hbr hg hown hg2
              go_roundw
              case rel => exact ⟨i3 + 1, by omega, by go_num, HT2.out ▸ hown', hst.1, hst.2⟩
              case measure => simp [intOf]; omega
            · have hs3' : i3 = s := by omega
              subst hs3'
              have HM : Hid ((L ++ pp ++ i3 :: List.replicate i3 fl).map B8 ++ [B8 c] = (L ++ pp ++ i3 :: List.replicate i3 fl ++ c :: List.replicate 0 fl).map B8) := by
                show _ = _
                simp
              go_wp2_with (at_builtin; go_must (refine wpList_append_own _ rfl _ _ 22 rfl w.heap.size 5 i0 (.int .u8 0) 1 1 Yba.underlying22 hi hz0 hz1 hz2 rfl (by decide) _ _ _ rfl (hown.alloc _) ⟨wr.heap.size, 0, none⟩ 1 1 [B8 c] rfl rfl (by intro t u ht; match t, ht with | 0, ht => simp at ht; subst ht; simp [Addr.add, B8]) (by intro u hu; simp at hu; subst hu; rfl) (by unfold maxLen; omega) (by omega) (by simp; omega) ?_; intro v' w1 hown' hgrow _))
              have hg2 : (wr.alloc (Obj.cells #[Value.int IntKind.u8 (c : Int)] 5)).grownBy w1 u11.ownBlock := hgrow
              have hst := app_step hbr hg hown hg2
              rw [HM.out] at hown'
              clear hgrow hg2 hbr hg hown f0 f1 f2 f3 HM hzr2
              go_loopw [11, 19] (fun v i wr => ∃ i4 : Nat, i4 ≤ c * 64 ∧ i = .int .i64 i4 ∧ wr.ownsRow w.heap.size 5 1 v (L.length + j + 1 + i3 + 1 + i4) ((L ++ pp ++ i3 :: List.replicate i3 fl ++ c :: List.replicate i4 fl).map B8) ∧ Below w.heap.size w wr ∧ wr.heap[g]? = some (.cells #[.slice pa P.length pc, .int .u8 (sz : Int), .int .u8 (sg : Int), .int .u8 (fl : Int)] 35)) (fun _ i _ => c * 64 - (intOf i).toNat)
              case atStart => exact ⟨0, Nat.zero_le _, rfl, hown', hst.1, hst.2⟩
              case round =>
                clear hown' hst
                obtain ⟨i4, hi4, rfl, hown, hbr, hg⟩ := hrel
                obtain ⟨f0, f1, f2, f3⟩ := four hg
                have hzr2 := hbr.size
                by_cases hlt4 : i4 < c * 64
                · have HT2 : Hid ((L ++ pp ++ i3 :: List.replicate i3 fl ++ c :: List.replicate (i4 + 1) fl).map B8 = (L ++ pp ++ i3 :: List.replicate i3 fl ++ c :: List.replicate i4 fl).map B8 ++ [B8 fl]) := by
                    show _ = _
                    rw [List.replicate_succ']
                    simp
                  go_wp2_with (at_builtin; go_must (refine wpList_append_own _ rfl _ _ 22 rfl w.heap.size 5 i0 (.int .u8 0) 1 1 Yba.underlying22 hi hz0 hz1 hz2 rfl (by decide) _ _ _ rfl (hown.alloc _) ⟨wr.heap.size, 0, none⟩ 1 1 [B8 fl] rfl rfl (by intro t u ht; match t, ht with | 0, ht => simp at ht; subst ht; simp [Addr.add, B8]) (by intro u hu; simp at hu; subst hu; rfl) (by unfold maxLen; omega) (by omega) (by simp; omega) ?_; intro v' w1 hown' hgrow _))
                  have hg2 : (wr.alloc (Obj.cells #[Value.int IntKind.u8 (fl : Int)] 5)).grownBy w1 u11.ownBlock := hgrow
                  have hst := app_step hbr hg hown hg2
                  go_roundw
                  case rel => exact ⟨i4 + 1, by omega, by go_num, HT2.out ▸ hown', hst.1, hst.2⟩
                  case measure => simp [intOf]; omega
                · have hs4' : i4 = c * 64 := by omega
                  subst hs4'
                  have HX : Hid (enc j M (Ms.take (k + 1)) = L ++ pp ++ i3 :: List.replicate i3 fl ++ c :: List.replicate (c * 64) fl) := by
                    show _ = _
                    rw [HS.out, HE.out]
                    simp
                  have HXL : Hid ((enc j M (Ms.take (k + 1))).length = L.length + j + 1 + i3 + 1 + c * 64) := by
                    show _ = _
                    rw [HX.out]
                    simp [hpl]; omega
                  clear f0 f1 f2 f3
                  go_wp2
                  go_roundw
                  case rel => exact ⟨k + 1, by omega, by go_num, by rw [HXL.out, HX.out]; exact hown, hbr⟩
                  case measure => simp [intOf]; omega
    · have hkm : k = ml := by omega
      subst hkm
      rw [List.take_of_length_le (by omega)] at hown
      have hL : (enc q M Ms).length ≤ 145 * 300 := by
        have := enc_len q M hq4 Ms
        omega
      have HCF : Hid (cf q (M : Int) Ms.length (enc q M Ms ++ T) = some T) := cf_enc q M hM1 T Ms
      have HLen : Hid (Ms.length = k) := hml
      have hLb := enc_lt q M hM1 hM2 Ms (fun e he => (hmb e he).2.2)
      clear hmb hmc
      generalize enc q M Ms = L at *
      have hT1 := hT.below hbr (Nat.le_refl _)
      have hbl : ∀ x ∈ L ++ T, x < 256 := by
        intro x hx
        rcases List.mem_append.1 hx with hx | hx
        · exact hLb x hx
        · exact hT.2.2.2 x hx
      have HB : Hid (∀ x ∈ L ++ T, x < 256) := hbl
      obtain ⟨va, vcap, rfl, hvc, hvm⟩ := row_slice hown
      have hTl := hT.1
      have hT2 := hT
      clear hbl hLb hT
      go_wp2_with (at_builtin; go_must (refine wpList_append_tail rfl _ _ rfl va _ vcap L T rfl hvc hvm hown ta tl tc rfl hT1 (by omega) h2 hbr ?_; intro va' vcap' w1 hown' hvc' hvm' hbr'))
      have hB1 := bytes_of_row hown' HB.out
      have hT0 : IsB w1 ta tl T := hT2.below hbr' (Nat.le_refl _)
      have hbx := hbr'.alloc hbr'.size (Obj.cells #[.slice va' (L.length + tl) vcap', .nilIface] 29)
      have hB2 := hB1.below ((Below.refl w1.heap.size w1).alloc (Nat.le_refl _) (Obj.cells #[.slice va' (L.length + tl) vcap', .nilIface] 29)) (Nat.le_refl _)
      have hT3 := hT0.below ((Below.refl w1.heap.size w1).alloc (Nat.le_refl _) (Obj.cells #[.slice va' (L.length + tl) vcap', .nilIface] 29)) (Nat.le_refl _)
      have hI0 : (w1.alloc (Obj.cells #[.slice va' (L.length + tl) vcap', .nilIface] 29)).cell? ⟨w1.heap.size, 0, none⟩ = some (.slice va' (L.length + tl) vcap') := by simp [go_sem]
      have hI1 : (w1.alloc (Obj.cells #[.slice va' (L.length + tl) vcap', .nilIface] 29)).cell? ⟨w1.heap.size, 1, none⟩ = some .nilIface := by simp [go_sem]
      have hIf : (w1.alloc (Obj.cells #[.slice va' (L.length + tl) vcap', .nilIface] 29)).frozen? ⟨w1.heap.size, 0, none⟩ = false := by simp [go_sem]
      have hzz := hbr'.size
      clear hB1 hT0 hown hbr hT1 hT2 hvc hvm hown'
      generalize w1.alloc (Obj.cells #[.slice va' (L.length + tl) vcap', .nilIface] 29) = W2 at *
      generalize w1.heap.size = I at *
      clear hbr'
      refine (compact_any I va' (L.length + tl) vcap' (L ++ T) k (by unfold maxLen; omega) (1 + (q : Int)) q (by omega) hq4 (M : Int) (by omega) W2 hI0 hIf hvc' hvm' hB2).mono ?_
      have HCF2 : Hid (cf q (M : Int) k (L ++ T) = some T) := by
        have := HCF.out
        rwa [HLen.out] at this
      rintro e w3 (⟨rest, hcf, rfl, a', hB3, cap', rfl⟩ | ⟨hcf, rfl, rfl⟩)
      · rw [HCF2.out] at hcf
        cases hcf
        have hB4 := hB3.setCell hI0 (.slice a' T.length cap')
        have hT4 := hT3.setCell hI0 (.slice a' T.length cap')
        have hbx4 := hbx.setCell (p := ⟨I, 0, none⟩) hzz (.slice a' T.length cap')
        have hJ0 : (W2.setCell ⟨I, 0, none⟩ (.slice a' T.length cap')).cell? ⟨I, 0, none⟩ = some (.slice a' T.length cap') := World.cell?_setCell_same _ _ _ hI0
        have hJ1 : (W2.setCell ⟨I, 0, none⟩ (.slice a' T.length cap')).cell? ⟨I, 1, none⟩ = some .nilIface := by
          rw [World.cell?_setCell_other _ _ _ _ (by simp)]; exact hI1
        subst hTl
        clear hB3 hT3 hbx hI0 hI1 hIf hB2 HCF HCF2 HLen
        generalize W2.setCell ⟨I, 0, none⟩ (.slice a' T.length cap') = W3 at *
        have hsub : ((T.length : Int) == ((L.length + T.length : Nat) : Int) - (L.length : Int)) = true := by simp; omega
        have hN1 : L.length + T.length ≤ 100000 := by omega
        have hN2 : L.length ≤ L.length + T.length := by omega
        clear hL hvc' hvm'
        generalize L.length + T.length = N at *
        generalize L.length = Ln at *
        generalize T.length = Tn at *
        go_upto_region 35 with fail
        go_wp2_with (refine wpList_eql_nil rfl _ rfl rfl ?_)
        refine (eq_any a' ta Tn cap' tc T W3 hB4 hT4).mono ?_
        rintro e w4 ⟨rfl, mm, rfl⟩
        go_wp2
        go_ret
        exact ⟨rfl, below_drewN hbx4 _⟩
      · rw [HCF2.out] at hcf
        cases hcf
end Go.Proofs.Ybulkbiok
