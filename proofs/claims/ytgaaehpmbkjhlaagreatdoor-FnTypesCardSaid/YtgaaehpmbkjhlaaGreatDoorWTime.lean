/- Times: Unix, Add, Before, of whole seconds. -/
import Derived.Test.YtgaaehpmbkjhlaaGreatDoorWErr
import Derived.Deep.RegionHeld3
import Derived.Deep.DrawnRows
namespace Go.Proofs.YtgaaehpmbkjhlaaGreatDoor
open Go Go.RowKit

def timeV (n : Int) : Value := .agg #[.int .i64 n, .int .i64 0]

set_option maxRecDepth 100000 in
theorem unix_gives (n : Int) (w : World) (h1 : -9000000000000000 ≤ n) (h2 : n ≤ 9000000000000000) : Calls Tryz.prog 51 #[.int .i64 n, .int .i64 0] w (Gives (timeV n) w) := by
  go_enter Tryz.func51, Tryz.ntmps51
  go_wp2
  go_returns
  exact ⟨by unfold timeV; simp, by go_grown⟩

set_option maxRecDepth 100000 in
theorem add_gives (n d : Int) (w : World) (h1 : -1000000000000000 ≤ n) (h2 : n ≤ 1000000000000000) (h3 : -1000000 ≤ d) (h4 : d ≤ 1000000) : Calls Tryz.prog 99 #[timeV n, .int .i64 (1000000000 * d)] w (Gives (timeV (n + d)) w) := by
  unfold timeV
  go_enter Tryz.func99, Tryz.ntmps99
  go_wp2_with fail
  refine (unix_gives (n + d) _ (by omega) (by omega)).mono ?_
  rintro e w2 ⟨rfl, hb⟩
  unfold timeV
  have hsz : ((w.alloc (.cells #[.int .i64 n, .int .i64 0] 56)).alloc (.cells #[.int .i64 0, .int .i64 0] 56)).heap.size = w.heap.size + 1 + 1 := by simp
  have c0 : w2.cell? ⟨w.heap.size + 1, 0, none⟩ = some (.int .i64 0) := (hb.cell (p := ⟨w.heap.size + 1, 0, none⟩) (by simp)).trans (by simp [go_sem])
  have c1 : w2.cell? ⟨w.heap.size + 1, 1, none⟩ = some (.int .i64 0) := (hb.cell (p := ⟨w.heap.size + 1, 1, none⟩) (by simp)).trans (by simp [go_sem])
  have f0 : w2.frozen? ⟨w.heap.size + 1, 0, none⟩ = false := (hb.frozen (p := ⟨w.heap.size + 1, 0, none⟩) (by simp)).trans (by simp [go_sem])
  have f1 : w2.frozen? ⟨w.heap.size + 1, 1, none⟩ = false := (hb.frozen (p := ⟨w.heap.size + 1, 1, none⟩) (by simp)).trans (by simp [go_sem])
  have hb0 : Below w.heap.size w ((w.alloc (.cells #[.int .i64 n, .int .i64 0] 56)).alloc (.cells #[.int .i64 0, .int .i64 0] 56)) := by go_grown
  have hb' : Below w.heap.size w w2 := hb0.trans (hb.mono (by omega))
  have HB := Lib.hid hb'
  clear hb hb0 hb' hsz
  have k0 : ((w2.setCell ⟨w.heap.size + 1, 0, none⟩ (.int .i64 (n + d))).setCell ⟨w.heap.size + 1, 1, none⟩ (.int .i64 0)).cell? ⟨w.heap.size + 1, 0, none⟩ = some (.int .i64 (n + d)) := (World.cell?_setCell_other _ _ _ _ (by simp)).trans (World.cell?_setCell_same _ _ _ c0)
  have k1 : ((w2.setCell ⟨w.heap.size + 1, 0, none⟩ (.int .i64 (n + d))).setCell ⟨w.heap.size + 1, 1, none⟩ (.int .i64 0)).cell? ⟨w.heap.size + 1, 1, none⟩ = some (.int .i64 0) := World.cell?_setCell_same _ _ _ ((World.cell?_setCell_other _ _ _ _ (by simp)).trans c1)
  have kb : Below w.heap.size w ((w2.setCell ⟨w.heap.size + 1, 0, none⟩ (.int .i64 (n + d))).setCell ⟨w.heap.size + 1, 1, none⟩ (.int .i64 0)) := (HB.out.setCell (by simp) _).setCell (by simp) _
  go_wp2
  clear c0 c1 f0 f1
  generalize (w2.setCell ⟨w.heap.size + 1, 0, none⟩ (.int .i64 (n + d))).setCell ⟨w.heap.size + 1, 1, none⟩ (.int .i64 0) = X at k0 k1 kb ⊢
  refine bodyPost_ret (v := .agg #[.int .i64 (n + d), .int .i64 0]) (by simp [results, Tryz.results99, go_sem, k0, k1]) rfl ?_
  exact ⟨rfl, kb⟩

set_option maxRecDepth 100000 in
theorem before_gives (a b : Int) (w : World) : Calls Tryz.prog 98 #[timeV a, timeV b] w (Gives (.bool (decide (a < b))) w) := by
  unfold timeV
  by_cases h : a < b
  · rw [decide_eq_true h]
    go_enter Tryz.func98, Tryz.ntmps98
    go_wp2
    go_ret
    exact ⟨rfl, by go_grown⟩
  · rw [decide_eq_false h]
    by_cases he : a = b
    · subst he
      go_enter Tryz.func98, Tryz.ntmps98
      go_wp2
      go_ret
      exact ⟨rfl, by go_grown⟩
    · go_enter Tryz.func98, Tryz.ntmps98
      go_wp2
      go_ret
      exact ⟨rfl, by go_grown⟩
end Go.Proofs.YtgaaehpmbkjhlaaGreatDoor
