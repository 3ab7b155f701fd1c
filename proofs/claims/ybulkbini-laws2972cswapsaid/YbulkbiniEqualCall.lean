/-
  '(*builder).equal' BY ITS CONTRACT, where neither value is a literal (its flag unset).
-/
import Derived.Test.YbulkbiniRows
import Derived.WalkKit
import Derived.ProofKit
import Derived.Below
import Derived.Deep.RegionHeld3
import Derived.Deep.QuietTactic
import Derived.BigQuiet
import Derived.Deep.DeepCutAuto
import Derived.WalkSmall
namespace Go.Proofs.Ybulkbini
open Go Go.RowKit

theorem keepA {w : World} {a : Addr} {v : Value} (h : w.cell? a = some v) (o : Obj) : (w.alloc o).cell? a = some v :=
  (World.cell?_of_block (Below.heap_alloc _ _ _ (World.block_lt_of_cell? _ _ h))).trans h

theorem last_at (W : World) (o1 o2 o3 : Obj) : (((W.alloc o1).alloc o2).alloc o3).drew.heap[W.heap.size + 1 + 1]? = some o3 := by
  show ((((W.heap.push o1).push o2).push o3)[W.heap.size + 1 + 1]?) = some o3
  rw [Array.getElem?_push, if_pos (by simp)]
theorem last_below (W : World) (o1 o2 o3 : Obj) : Below W.heap.size W (((W.alloc o1).alloc o2).alloc o3).drew :=
  ((((Below.refl _ _).alloc (Nat.le_refl _) _).alloc (by simp) _).alloc (by simp; omega) _).drew

theorem atLeast_any (a b : Int) (w : World) : Calls Yba.prog 12 #[.int .i64 a, .int .i64 b] w fun e w' => e = .returned (.agg #[.int .i64 1, .int .i64 a, .int .i64 b]) ∧ w' = w.alloc (.cells #[.int .i64 1, .int .i64 a, .int .i64 b] 97) := by
  go_enter Yba.func12, Yba.ntmps12
  go_wp2
  exact bodyPost_ret (v := .agg #[.int .i64 1, .int .i64 a, .int .i64 b]) (by simp [results, Yba.results12, go_sem]) rfl ⟨rfl, rfl⟩

set_option maxHeartbeats 1000000 in
set_option maxRecDepth 100000 in
theorem equal_core {I : Value} (xt yt lo hi : Int) (hlo : (if yt < xt then yt else xt) = lo) (hhi : (if xt < yt then yt else xt) = hi) {x0 x1 x2 x3 x4 x5 x6 x8 x9 x10 x11 x12 x13 x14 x15 x16 x17 x18 x19 x20 x21 x23 x24 x25 x26 x27 x28 y0 y1 y2 y3 y4 y5 y6 y8 y9 y10 y11 y12 y13 y14 y15 y16 y17 y18 y19 y20 y21 y23 y24 y25 y26 y27 y28 : Value} (w : World) :
    Calls Yba.prog 10 #[I, .agg #[x0, x1, x2, x3, x4, x5, x6, .bool false, x8, x9, x10, x11, x12, x13, x14, x15, x16, x17, x18, x19, x20, x21, .int .i64 xt, x23, x24, x25, x26, x27, x28], .agg #[y0, y1, y2, y3, y4, y5, y6, .bool false, y8, y9, y10, y11, y12, y13, y14, y15, y16, y17, y18, y19, y20, y21, .int .i64 yt, y23, y24, y25, y26, y27, y28]] w
      fun e w' => ∃ g, e = .returned (.slice (some ⟨g, 0, none⟩) 3 3) ∧ w.heap.size ≤ g ∧
        w'.heap[g]? = some (.cells #[.int .i64 1, .int .i64 xt, .int .i64 yt, .int .i64 1, .int .i64 yt, .int .i64 xt, .int .i64 3, .int .i64 lo, .int .i64 hi] 97) ∧ Below w.heap.size w w' := by
  have hb0 : Below w.heap.size w ((w.alloc (Obj.cells #[x0, x1, x2, x3, x4, x5, x6, .bool false, x8, x9, x10, x11, x12, x13, x14, x15, x16, x17, x18, x19, x20, x21, .int .i64 xt, x23, x24, x25, x26, x27, x28] 92)).alloc (Obj.cells #[y0, y1, y2, y3, y4, y5, y6, .bool false, y8, y9, y10, y11, y12, y13, y14, y15, y16, y17, y18, y19, y20, y21, .int .i64 yt, y23, y24, y25, y26, y27, y28] 92)) := ((Below.refl _ _).alloc (Nat.le_refl _) _).alloc (by simp) _
  have hsz : ((w.alloc (Obj.cells #[x0, x1, x2, x3, x4, x5, x6, .bool false, x8, x9, x10, x11, x12, x13, x14, x15, x16, x17, x18, x19, x20, x21, .int .i64 xt, x23, x24, x25, x26, x27, x28] 92)).alloc (Obj.cells #[y0, y1, y2, y3, y4, y5, y6, .bool false, y8, y9, y10, y11, y12, y13, y14, y15, y16, y17, y18, y19, y20, y21, .int .i64 yt, y23, y24, y25, y26, y27, y28] 92)).heap.size = w.heap.size + 2 := by simp
  have hx : ((w.alloc (Obj.cells #[x0, x1, x2, x3, x4, x5, x6, .bool false, x8, x9, x10, x11, x12, x13, x14, x15, x16, x17, x18, x19, x20, x21, .int .i64 xt, x23, x24, x25, x26, x27, x28] 92)).alloc (Obj.cells #[y0, y1, y2, y3, y4, y5, y6, .bool false, y8, y9, y10, y11, y12, y13, y14, y15, y16, y17, y18, y19, y20, y21, .int .i64 yt, y23, y24, y25, y26, y27, y28] 92)).cell? ⟨w.heap.size, 22, none⟩ = some (.int .i64 xt) := by simp [go_sem]
  have hy : ((w.alloc (Obj.cells #[x0, x1, x2, x3, x4, x5, x6, .bool false, x8, x9, x10, x11, x12, x13, x14, x15, x16, x17, x18, x19, x20, x21, .int .i64 xt, x23, x24, x25, x26, x27, x28] 92)).alloc (Obj.cells #[y0, y1, y2, y3, y4, y5, y6, .bool false, y8, y9, y10, y11, y12, y13, y14, y15, y16, y17, y18, y19, y20, y21, .int .i64 yt, y23, y24, y25, y26, y27, y28] 92)).cell? ⟨w.heap.size + 1, 22, none⟩ = some (.int .i64 yt) := by simp [go_sem]
  have hxf : ((w.alloc (Obj.cells #[x0, x1, x2, x3, x4, x5, x6, .bool false, x8, x9, x10, x11, x12, x13, x14, x15, x16, x17, x18, x19, x20, x21, .int .i64 xt, x23, x24, x25, x26, x27, x28] 92)).alloc (Obj.cells #[y0, y1, y2, y3, y4, y5, y6, .bool false, y8, y9, y10, y11, y12, y13, y14, y15, y16, y17, y18, y19, y20, y21, .int .i64 yt, y23, y24, y25, y26, y27, y28] 92)).cell? ⟨w.heap.size, 7, none⟩ = some (.bool false) := by simp [go_sem]
  have hyf : ((w.alloc (Obj.cells #[x0, x1, x2, x3, x4, x5, x6, .bool false, x8, x9, x10, x11, x12, x13, x14, x15, x16, x17, x18, x19, x20, x21, .int .i64 xt, x23, x24, x25, x26, x27, x28] 92)).alloc (Obj.cells #[y0, y1, y2, y3, y4, y5, y6, .bool false, y8, y9, y10, y11, y12, y13, y14, y15, y16, y17, y18, y19, y20, y21, .int .i64 yt, y23, y24, y25, y26, y27, y28] 92)).cell? ⟨w.heap.size + 1, 7, none⟩ = some (.bool false) := by simp [go_sem]
  go_enter Yba.func10, Yba.ntmps10
  go_wp2
  generalize (w.alloc (Obj.cells #[x0, x1, x2, x3, x4, x5, x6, .bool false, x8, x9, x10, x11, x12, x13, x14, x15, x16, x17, x18, x19, x20, x21, .int .i64 xt, x23, x24, x25, x26, x27, x28] 92)).alloc (Obj.cells #[y0, y1, y2, y3, y4, y5, y6, .bool false, y8, y9, y10, y11, y12, y13, y14, y15, y16, y17, y18, y19, y20, y21, .int .i64 yt, y23, y24, y25, y26, y27, y28] 92) = W at *
  have hw1 : w.heap.size < W.heap.size := by omega
  have hw2 : w.heap.size + 1 < W.heap.size := by omega
  have HZ : Hid (W.heap.size = w.heap.size + 2) := hsz
  clear hsz
  go_cut [7] (fun v wx => ∃ g, v = .slice (some ⟨g, 0, none⟩) 3 3 ∧ w.heap.size ≤ g ∧ wx.heap[g]? = some (.cells #[.int .i64 1, .int .i64 xt, .int .i64 yt, .int .i64 1, .int .i64 yt, .int .i64 xt, .int .i64 3, .int .i64 lo, .int .i64 hi] 97) ∧ Below W.heap.size W wx)
  case first =>
    go_region_held3 (fun w' => w'.cell? ⟨w.heap.size, 22, none⟩ = some (.int .i64 xt) ∧ w'.cell? ⟨w.heap.size + 1, 22, none⟩ = some (.int .i64 yt)) (first | exact ⟨hx, hy⟩ | exact ⟨keepA hx _, keepA hy _⟩ | exact ⟨keepA (keepA hx _) _, keepA (keepA hy _) _⟩ | exact ⟨keepA (keepA (keepA hx _) _) _, keepA (keepA (keepA hy _) _) _⟩) (first | (go_at_call 12; refine (atLeast_any _ _ _).mono ?_; rintro e w' ⟨rfl, rfl⟩))
    all_goals go_wp2
    all_goals go_meet
    all_goals exact ⟨_, rfl, by omega, last_at W _ _ _, last_below W _ _ _⟩
  case rest =>
    obtain ⟨g, rfl, hg, hgb, hbc⟩ := hcut
    have hxf2 := (hbc.cell (p := ⟨w.heap.size, 7, none⟩) hw1).trans hxf
    have hyf2 := (hbc.cell (p := ⟨w.heap.size + 1, 7, none⟩) hw2).trans hyf
    have hbw := hb0.trans (hbc.mono (by omega))
    clear hx hy hxf hyf hlo hhi hbc
    go_wp2
    go_quiet (fail)
    go_wp2
    go_quiet (fail)
    go_wp2
    go_ret
    exact ⟨g, rfl, hg, hgb, below_drewN (below_drewN hbw _) _⟩

/-- The nine cells of the three facts. -/
theorem nine {w : World} {g : Nat} {c0 c1 c2 c3 c4 c5 c6 c7 c8 : Value} (h : w.heap[g]? = some (.cells #[c0, c1, c2, c3, c4, c5, c6, c7, c8] 97)) :
    (w.cell? ⟨g, 0, none⟩ = some c0 ∧ w.cell? ⟨g, 1, none⟩ = some c1 ∧ w.cell? ⟨g, 2, none⟩ = some c2) ∧ (w.cell? ⟨g, 3, none⟩ = some c3 ∧ w.cell? ⟨g, 4, none⟩ = some c4 ∧ w.cell? ⟨g, 5, none⟩ = some c5) ∧
    (w.cell? ⟨g, 6, none⟩ = some c6 ∧ w.cell? ⟨g, 7, none⟩ = some c7 ∧ w.cell? ⟨g, 8, none⟩ = some c8) := by
  simp [World.cell?, h]
end Go.Proofs.Ybulkbini
