/- The errors that a validation gathers; the clock that the options hold. -/
import Derived.Test.YtgaaehpmbkjhlaaGreatDoorWVerAud
namespace Go.Proofs.YtgaaehpmbkjhlaaGreatDoor
open Go Go.RowKit

theorem Tryz.info51 : (Tryz.prog.info? 51).map (fun i => (i.zero, i.size, i.bytes)) = some (some .nilIface, 1, 16) := by kernel_rfl

set_option maxRecDepth 100000 in
set_option maxHeartbeats 1000000 in
theorem clock_gives (bs : Nat) (n : Int) (w : World) (hc : w.cell? ⟨bs, 0, none⟩ = some (.int .i64 n)) (h1 : -9000000000000000 ≤ n) (h2 : n ≤ 9000000000000000) : Calls Tryz.prog 50 #[.pointer (some ⟨bs, 0, none⟩)] w (Gives (timeV n) w) := by
  have hb1 := below1 w (.cells #[.int .i64 0, .int .i64 0] 56)
  have hc1 := cell_below hc hb1
  go_enter Tryz.func50, Tryz.ntmps50
  go_wp2_with fail
  refine (unix_gives n _ h1 h2).mono ?_
  rintro e w2 ⟨rfl, hb⟩
  unfold timeV
  have c0 : w2.cell? ⟨w.heap.size, 0, none⟩ = some (.int .i64 0) := (hb.cell (p := ⟨w.heap.size, 0, none⟩) (by simp)).trans (by simp [go_sem])
  have c1 : w2.cell? ⟨w.heap.size, 1, none⟩ = some (.int .i64 0) := (hb.cell (p := ⟨w.heap.size, 1, none⟩) (by simp)).trans (by simp [go_sem])
  have f0 : w2.frozen? ⟨w.heap.size, 0, none⟩ = false := (hb.frozen (p := ⟨w.heap.size, 0, none⟩) (by simp)).trans (by simp [go_sem])
  have f1 : w2.frozen? ⟨w.heap.size, 1, none⟩ = false := (hb.frozen (p := ⟨w.heap.size, 1, none⟩) (by simp)).trans (by simp [go_sem])
  have hb' : Below w.heap.size w w2 := hb1.trans (hb.mono (by simp))
  have HB := Lib.hid hb'
  clear hb hb1 hb' hc hc1
  have k0 : ((w2.setCell ⟨w.heap.size, 0, none⟩ (.int .i64 n)).setCell ⟨w.heap.size, 1, none⟩ (.int .i64 0)).cell? ⟨w.heap.size, 0, none⟩ = some (.int .i64 n) := (World.cell?_setCell_other _ _ _ _ (by simp)).trans (World.cell?_setCell_same _ _ _ c0)
  have k1 : ((w2.setCell ⟨w.heap.size, 0, none⟩ (.int .i64 n)).setCell ⟨w.heap.size, 1, none⟩ (.int .i64 0)).cell? ⟨w.heap.size, 1, none⟩ = some (.int .i64 0) := World.cell?_setCell_same _ _ _ ((World.cell?_setCell_other _ _ _ _ (by simp)).trans c1)
  have kb : Below w.heap.size w ((w2.setCell ⟨w.heap.size, 0, none⟩ (.int .i64 n)).setCell ⟨w.heap.size, 1, none⟩ (.int .i64 0)) := (HB.out.setCell (by simp) _).setCell (by simp) _
  go_wp2
  clear c0 c1 f0 f1
  generalize (w2.setCell ⟨w.heap.size, 0, none⟩ (.int .i64 n)).setCell ⟨w.heap.size, 1, none⟩ (.int .i64 0) = X at k0 k1 kb ⊢
  refine bodyPost_ret (v := .agg #[.int .i64 n, .int .i64 0]) (by simp [results, Tryz.results50, go_sem, k0, k1]) rfl ?_
  exact ⟨rfl, kb⟩

/-- An error whose blocks are not the block o. -/
inductive ErrF (w : World) (a : Addr) (o : Option Nat) : Value → Prop
  | plain : ErrF w a o (snt a)
  | wrapped (b c : Nat) (h1 : w.cell? ⟨b, 1, none⟩ = some (.slice (some ⟨c, 0, none⟩) 1 1)) (h2 : w.cell? ⟨c, 0, none⟩ = some (snt a)) (n1 : o ≠ some b) (n2 : o ≠ some c) : ErrF w a o (.iface 148 (.pointer (some ⟨b, 0, none⟩)))

theorem ErrF.below {w w' : World} {a : Addr} {o : Option Nat} {v : Value} (h : ErrF w a o v) (hb : Below w.heap.size w w') : ErrF w' a o v := by
  cases h with
  | plain => exact .plain
  | wrapped b c h1 h2 n1 n2 => exact .wrapped b c (cell_below h1 hb) (cell_below h2 hb) n1 n2
theorem ErrF.at {w : World} {a : Addr} {o : Option Nat} {v : Value} (h : ErrF w a o v) : ErrAt w a 0 v := by
  cases h with
  | plain => exact .plain
  | wrapped b c h1 h2 n1 n2 => exact .wrapped b c h1 h2 (Nat.zero_le _) (Nat.zero_le _)
theorem ErrAt.far {w : World} {a : Addr} {B : Nat} {o : Option Nat} {v : Value} (h : ErrAt w a B v) (ho : ∀ g, o = some g → g < B) : ErrF w a o v := by
  cases h with
  | plain => exact .plain
  | wrapped b c h1 h2 l1 l2 => exact .wrapped b c h1 h2 (fun e => by have := ho _ e; omega) (fun e => by have := ho _ e; omega)
theorem ErrF.grown {w w' : World} {a : Addr} {o : Option Nat} {v : Value} {g : Nat} (h : ErrF w a o v) (hg : w.grownBy w' o) (hat : o = some g ∨ g = w.heap.size) : ErrF w' a (some g) v := by
  cases h with
  | plain => exact .plain
  | wrapped b c h1 h2 n1 n2 =>
    have l1 := World.block_lt_of_cell? w _ h1
    have l2 := World.block_lt_of_cell? w _ h2
    simp only at l1 l2
    refine .wrapped b c ((hg.cell_far ⟨b, 1, none⟩ l1 (fun e => n1 e.symm)).trans h1) ((hg.cell_far ⟨c, 0, none⟩ l2 (fun e => n2 e.symm)).trans h2) ?_ ?_
    · rcases hat with e | e
      · rw [← e]; exact n1
      · intro e2; simp at e2; omega
    · rcases hat with e | e
      · rw [← e]; exact n2
      · intro e2; simp at e2; omega

/-- The errors gathered so far, in memory of the call's own. -/
def ErrsOwn (w : World) (B : Nat) (se : Nat → Addr) (sl : Value) (ks : List Nat) : Prop :=
  ∃ vs, w.ownsRow B 51 1 sl vs.length vs ∧ vs.length = ks.length ∧ ∀ i (h : i < ks.length) (h' : i < vs.length), ErrF w (se ks[i]) sl.ownBlock vs[i]

theorem ErrsOwn.below {w w' : World} {B : Nat} {se : Nat → Addr} {sl : Value} {ks : List Nat} (h : ErrsOwn w B se sl ks) (hb : Below w.heap.size w w') : ErrsOwn w' B se sl ks := by
  obtain ⟨vs, h1, h2, h3⟩ := h
  exact ⟨vs, owns_below h1 hb, h2, fun i hi hi' => (h3 i hi hi').below hb⟩

/-- Behind the append of one more. -/
theorem ErrsOwn.add {w w' : World} {B : Nat} {se : Nat → Addr} {sl : Value} {ks : List Nat} {vs : List Value} {k g cap : Nat} {v : Value}
    (h2 : vs.length = ks.length) (h3 : ∀ i (h : i < ks.length) (h' : i < vs.length), ErrF w (se ks[i]) sl.ownBlock vs[i]) (hv : ErrF w (se k) sl.ownBlock v)
    (hown : w'.ownsRow B 51 1 (.slice (some ⟨g, 0, none⟩) (vs.length + 1) cap) (vs.length + 1) (vs ++ [v])) (hg : w.grownBy w' sl.ownBlock) (hat : sl.ownBlock = some g ∨ g = w.heap.size) :
    ErrsOwn w' B se (.slice (some ⟨g, 0, none⟩) (vs.length + 1) cap) (ks ++ [k]) := by
  refine ⟨vs ++ [v], by simpa using hown, by simp [h2], fun i hi hi' => ?_⟩
  have e : (Value.slice (some ⟨g, 0, none⟩) (vs.length + 1) cap).ownBlock = some g := rfl
  rw [e]
  rcases Nat.lt_or_ge i ks.length with hlt | hge
  · have h' : i < vs.length := by omega
    rw [List.getElem_append_left hlt, List.getElem_append_left h']
    exact (h3 i hlt h').grown hg hat
  · have hi2 : i = ks.length := by simp at hi; omega
    subst hi2
    rw [List.getElem_append_right (Nat.le_refl _), List.getElem_append_right (by omega)]
    simp only [Nat.sub_self, h2, List.getElem_singleton]
    exact hv.grown hg hat
end Go.Proofs.YtgaaehpmbkjhlaaGreatDoor
