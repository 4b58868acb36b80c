/- The list of options as it grows: the closure that adds one. -/
import Derived.Test.YtgaaehpmbkjhlaaGreatDoorWOpt
import Derived.Maps.AppendAt
import Derived.Deep.AppendLies
import Derived.OneCell
namespace Go.Proofs.YtgaaehpmbkjhlaaGreatDoor
open Go Go.RowKit

theorem Tryz.info95 : (Tryz.prog.info? 95).map (fun i => (i.zero, i.size, i.bytes)) = some (some .nilFunc, 1, 8) := by kernel_rfl

/-- The variable bo holds the list of options os. -/
structure OutAt (w : World) (B bo : Nat) (sl : Value) (os : List Value) : Prop where
  blk : w.heap[bo]? = some (.cells #[sl] 72 (0, 0))
  own : w.ownsRow B 95 1 sl os.length os
  ne : sl.ownBlock ≠ some bo
  le : B ≤ bo

/-- A block that the list's growth leaves alone. -/
def Safe (w : World) (bo k : Nat) : Prop := k < w.heap.size ∧ k ≠ bo ∧ ∀ sl, w.heap[bo]? = some (.cells #[sl] 72 (0, 0)) → sl.ownBlock ≠ some k

structure Step (bo : Nat) (w w' : World) : Prop where
  size : w.heap.size ≤ w'.heap.size
  keep : ∀ k, Safe w bo k → Safe w' bo k ∧ w'.heap[k]? = w.heap[k]?

theorem Step.refl (bo : Nat) (w : World) : Step bo w w := ⟨Nat.le_refl _, fun _ h => ⟨h, rfl⟩⟩
theorem Step.trans {bo : Nat} {a b c : World} (h : Step bo a b) (k : Step bo b c) : Step bo a c :=
  ⟨Nat.le_trans h.size k.size, fun j hj => ⟨(k.keep j (h.keep j hj).1).1, (k.keep j (h.keep j hj).1).2.trans (h.keep j hj).2⟩⟩
theorem Step.of_below {bo : Nat} {w w' : World} (hbo : bo < w.heap.size) (h : Below w.heap.size w w') : Step bo w w' :=
  ⟨h.size, fun k hk => ⟨⟨Nat.lt_of_lt_of_le hk.1 h.size, hk.2.1, fun sl hs => hk.2.2 sl ((h.block bo hbo).symm.trans hs)⟩, h.block k hk.1⟩⟩
theorem cell_of_heap {w w' : World} {a : Addr} (h : w'.heap[a.block]? = w.heap[a.block]?) : w'.cell? a = w.cell? a := by
  unfold World.cell?; rw [h]
theorem Safe.cell {w w' : World} {bo : Nat} {a : Addr} {x : Value} (h : Safe w bo a.block) (st : Step bo w w') (hc : w.cell? a = some x) : w'.cell? a = some x :=
  (cell_of_heap (st.keep _ h).2).trans hc
/-- What is new is safe. -/
theorem Safe.new {w w' : World} {B bo : Nat} {sl : Value} {os : List Value} (h : OutAt w B bo sl os) (hb : Below w.heap.size w w') {k : Nat} (hk : w.heap.size ≤ k) (hk' : k < w'.heap.size) : Safe w' bo k := by
  have hbo := lt_of_block h.blk
  refine ⟨hk', by omega, fun sl' hs => ?_⟩
  have e := (hb.block bo hbo).symm.trans hs
  rw [h.blk] at e
  obtain rfl : sl = sl' := by simpa using e
  intro e2
  have := (h.own.lt k e2).2
  omega
theorem OutAt.below {w w' : World} {B bo : Nat} {sl : Value} {os : List Value} (h : OutAt w B bo sl os) (hb : Below w.heap.size w w') : OutAt w' B bo sl os :=
  ⟨(hb.block bo (lt_of_block h.blk)).trans h.blk, owns_below h.own hb, h.ne, h.le⟩

/-- The closure adds an option where it is asked. -/
def GivesAdd (B bo : Nat) (os : List Value) (w : World) (e : Ending) (w' : World) : Prop := e = .returned (.tuple #[]) ∧ (∃ sl, OutAt w' B bo sl os) ∧ Step bo w w' ∧ Below B w w'

theorem add_no (B bo : Nat) (sl : Value) (o : Value) (os : List Value) (w : World) (h : OutAt w B bo sl os) : Calls Tryz.prog 53 #[.bool false, o, .pointer (some ⟨bo, 0, none⟩)] w (GivesAdd B bo os w) := by
  go_enter Tryz.func53, Tryz.ntmps53
  go_wp2
  go_returns
  exact ⟨rfl, ⟨sl, h⟩, Step.refl _ _, Below.refl _ _⟩

set_option maxRecDepth 100000 in
set_option maxHeartbeats 1000000 in
theorem add_yes (B bo : Nat) (sl : Value) (f : Fn) (fa fc : Array Value) (os : List Value) (w : World) (h : OutAt w B bo sl os) (hn : os.length ≤ 100) : Calls Tryz.prog 53 #[.bool true, .func f fa fc, .pointer (some ⟨bo, 0, none⟩)] w (GivesAdd B bo (os ++ [.func f fa fc]) w) := by
  have hc := cell_of_one h.blk
  have hbo := lt_of_block h.blk
  have hle := h.le
  obtain ⟨i0, hi, hz0, hz1, hz2⟩ := info_parts Tryz.info95
  have H := Lib.hid h; clear h
  go_enter Tryz.func53, Tryz.ntmps53
  have hszB : B ≤ w.heap.size := by omega
  go_wp2_with (at_builtin; refine wpList_append_lies _ rfl _ _ 72 rfl B 95 i0 .nilFunc 1 8 Tryz.underlying72 hi hz0 hz1 hz2 rfl (by decide) sl os.length os rfl (H.out.own.alloc _) ⟨w.heap.size, 0, none⟩ 1 1 [.func f fa fc] rfl rfl (cell_one_new _ _ _) (fun u hu => by simp at hu; subst hu; rfl) (by decide) (by unfold maxLen; omega) (by omega) (by simp; omega) (w.heap.size + 1) (by simp) ?_; intro g cap w3 hown3 hg3 hat3 hlt3; have hne3 : some bo ≠ sl.ownBlock := fun e => H.out.ne e.symm; have hc3 : w3.cell? ⟨bo, 0, none⟩ = some sl := (hg3.cell_far ⟨bo, 0, none⟩ (by simp; omega) hne3).trans ((World.cell?_alloc_lt _ _ _ hbo).trans hc); have hf3 : w3.frozen? ⟨bo, 0, none⟩ = false := free_of_one ((hg3.block bo (by simp; omega) hne3).trans ((Below.heap_alloc _ _ _ hbo).trans H.out.blk)))
  go_returns
  have hgb : (Value.slice (some ⟨g, 0, none⟩) (os.length + 1) cap).ownBlock ≠ some bo := by
    rw [show (Value.slice (some ⟨g, 0, none⟩) (os.length + 1) cap).ownBlock = some g from rfl]
    rcases hat3 with h | h
    · exact fun e => hne3 (by rw [h, e])
    · intro e; simp at e; omega
  have hblk3 : w3.heap[bo]? = some (.cells #[sl] 72 (0, 0)) := (hg3.block bo (by simp; omega) hne3).trans ((Below.heap_alloc _ _ _ hbo).trans H.out.blk)
  have hsz3 : w.heap.size + 1 ≤ w3.heap.size := by have := hg3.size; simpa using this
  refine ⟨rfl, ⟨_, one_setCell hblk3, ?_, hgb, hle⟩, ⟨by simp; omega, fun k hk => ⟨⟨by simp; have := hk.1; omega, hk.2.1, fun sl' hs => ?_⟩, ?_⟩⟩, ?_⟩
  · have := ownsRow_setCell_other hown3 (a := ⟨bo, 0, none⟩) hgb (.slice (some ⟨g, 0, none⟩) (os.length + 1) cap)
    simpa using this
  · rw [one_setCell hblk3] at hs
    obtain rfl : Value.slice (some ⟨g, 0, none⟩) (os.length + 1) cap = sl' := by simpa using hs
    rw [show (Value.slice (some ⟨g, 0, none⟩) (os.length + 1) cap).ownBlock = some g from rfl]
    rcases hat3 with h | h
    · rw [← h]; exact hk.2.2 sl H.out.blk
    · have := hk.1; intro e; simp at e; omega
  · rw [Below.heap_setCell _ _ _ _ hk.2.1]
    exact (hg3.block k (by have := hk.1; simp; omega) (fun e => hk.2.2 sl H.out.blk e.symm)).trans (Below.heap_alloc _ _ _ hk.1)
  · refine (((Below.refl B w).alloc hszB _).grown hg3 (by simp; omega) (fun k hk => (H.out.own.lt k hk).1)).setCell hle _

theorem add_tells (B bo : Nat) (sl : Value) (b : Bool) (f : Fn) (fa fc : Array Value) (os : List Value) (w : World) (h : OutAt w B bo sl os) (hn : os.length ≤ 100) : Calls Tryz.prog 53 #[.bool b, .func f fa fc, .pointer (some ⟨bo, 0, none⟩)] w (GivesAdd B bo (if b then os ++ [.func f fa fc] else os) w) := by
  cases b
  · exact add_no B bo sl _ os w h
  · exact add_yes B bo sl f fa fc os w h hn
end Go.Proofs.YtgaaehpmbkjhlaaGreatDoor
