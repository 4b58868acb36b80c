/- The package's options: what makes them, and what each does to a parser. -/
import Derived.Test.YtgaaehpmbkjhlaaGreatDoorWSet
import Derived.Deep.RegionHeld3
import Derived.Deep.DrawnRows
import Derived.Laws.EntriesVeiled
namespace Go.Proofs.YtgaaehpmbkjhlaaGreatDoor
open Go Go.RowKit
attribute [local go_sem ↓] Go.wp_at_zero Go.wp_at_succ

/-- A parser p with a validator v whose fields are d. -/
structure ParAt (w : World) (p v : Nat) (d : Nat → Value) : Prop where
  ptr : w.cell? ⟨p, 4, none⟩ = some (.pointer (some ⟨v, 0, none⟩))
  pc : ∀ i, i < 7 → ∃ x, w.cell? ⟨p, i, none⟩ = some x
  pf : ∀ i, i < 7 → w.frozen? ⟨p, i, none⟩ = false
  vc : ∀ i, i < 9 → w.cell? ⟨v, i, none⟩ = some (d i)
  vf : ∀ i, i < 9 → w.frozen? ⟨v, i, none⟩ = false
  ne : p ≠ v

def setD (d : Nat → Value) (i : Nat) (u : Value) : Nat → Value := fun j => if j = i then u else d j

theorem ParAt.setV {w : World} {p v : Nat} {d : Nat → Value} (h : ParAt w p v d) (i : Nat) (hi : i < 9) (u : Value) : ParAt (w.setCell ⟨v, i, none⟩ u) p v (setD d i u) := by
  have hp : ∀ j, (w.setCell ⟨v, i, none⟩ u).cell? ⟨p, j, none⟩ = w.cell? ⟨p, j, none⟩ := fun j => World.cell?_setCell_other _ _ _ _ (fun e => h.ne (Addr.mk.inj e).1.symm)
  refine ⟨(hp 4).trans h.ptr, fun j hj => ?_, fun j hj => by rw [World.frozen?_setCell]; exact h.pf j hj, fun j hj => ?_, fun j hj => by rw [World.frozen?_setCell]; exact h.vf j hj, h.ne⟩
  · obtain ⟨x, hx⟩ := h.pc j hj
    exact ⟨x, (hp j).trans hx⟩
  · unfold setD
    by_cases e : j = i
    · subst e
      rw [if_pos rfl]
      exact World.cell?_setCell_same _ _ _ (h.vc j hj)
    · rw [if_neg e]
      exact (World.cell?_setCell_other _ _ _ _ (fun e' => e (Addr.mk.inj e').2.1.symm)).trans (h.vc j hj)
theorem ParAt.setP {w : World} {p v : Nat} {d : Nat → Value} (h : ParAt w p v d) (i : Nat) (hi : i < 7) (h4 : i ≠ 4) (u : Value) : ParAt (w.setCell ⟨p, i, none⟩ u) p v d := by
  have hv : ∀ j, (w.setCell ⟨p, i, none⟩ u).cell? ⟨v, j, none⟩ = w.cell? ⟨v, j, none⟩ := fun j => World.cell?_setCell_other _ _ _ _ (fun e => h.ne (Addr.mk.inj e).1)
  refine ⟨(World.cell?_setCell_other _ _ _ _ (fun e => h4 (Addr.mk.inj e).2.1)).trans h.ptr, fun j hj => ?_, fun j hj => by rw [World.frozen?_setCell]; exact h.pf j hj, fun j hj => (hv j).trans (h.vc j hj), fun j hj => by rw [World.frozen?_setCell]; exact h.vf j hj, h.ne⟩
  by_cases e : j = i
  · subst e
    obtain ⟨x, hx⟩ := h.pc j hj
    exact ⟨u, World.cell?_setCell_same _ _ _ hx⟩
  · obtain ⟨x, hx⟩ := h.pc j hj
    exact ⟨x, (World.cell?_setCell_other _ _ _ _ (fun e' => e (Addr.mk.inj e').2.1.symm)).trans hx⟩

/-- A call that sets fields of a parser. -/
def GivesPar (p v : Nat) (d : Nat → Value) (w : World) (e : Ending) (w' : World) : Prop := e = .returned (.tuple #[]) ∧ ParAt w' p v d ∧ ∀ B, B ≤ p → B ≤ v → Below B w w'
theorem GivesPar.setV {p v : Nat} {d : Nat → Value} {w : World} (h : ParAt w p v d) (i : Nat) (hi : i < 9) (u : Value) : GivesPar p v (setD d i u) w (.returned (.tuple #[])) (w.setCell ⟨v, i, none⟩ u) :=
  ⟨rfl, h.setV i hi u, fun B _ h2 => (Below.refl B w).setCell h2 u⟩
theorem GivesPar.setP {p v : Nat} {d : Nat → Value} {w : World} (h : ParAt w p v d) (i : Nat) (hi : i < 7) (h4 : i ≠ 4) (u : Value) : GivesPar p v d w (.returned (.tuple #[])) (w.setCell ⟨p, i, none⟩ u) :=
  ⟨rfl, h.setP i hi h4 u, fun B h1 _ => (Below.refl B w).setCell h1 u⟩
theorem ParAt.drew {w : World} {p v : Nat} {d : Nat → Value} (h : ParAt w p v d) : ParAt w.drew p v d := ⟨h.ptr, h.pc, h.pf, h.vc, h.vf, h.ne⟩
theorem GivesPar.drew {p v : Nat} {d : Nat → Value} {w : World} {e : Ending} {w' : World} (h : GivesPar p v d w e w') : GivesPar p v d w e w'.drew := ⟨h.1, h.2.1.drew, fun B h1 h2 => (h.2.2 B h1 h2).drew⟩

theorem opt90 (p v : Nat) (d : Nat → Value) (w : World) (h : ParAt w p v d) : Calls Tryz.prog 90 #[.pointer (some ⟨p, 0, none⟩)] w (GivesPar p v (setD d 2 (.bool true)) w) := by
  have h4 := h.ptr
  have hc := h.vc 2 (by decide)
  have hf := h.vf 2 (by decide)
  have H := Lib.hid h; clear h
  go_enter Tryz.func90, Tryz.ntmps90
  go_wp2
  go_returns
  exact GivesPar.setV H.out 2 (by decide) _

theorem opt91 (p v : Nat) (d : Nat → Value) (w : World) (h : ParAt w p v d) : Calls Tryz.prog 91 #[.pointer (some ⟨p, 0, none⟩)] w (GivesPar p v (setD d 3 (.bool true)) w) := by
  have h4 := h.ptr
  have hc := h.vc 3 (by decide)
  have hf := h.vf 3 (by decide)
  have H := Lib.hid h; clear h
  go_enter Tryz.func91, Tryz.ntmps91
  go_wp2
  go_returns
  exact GivesPar.setV H.out 3 (by decide) _

theorem opt92 (p v : Nat) (d : Nat → Value) (w : World) (h : ParAt w p v d) : Calls Tryz.prog 92 #[.pointer (some ⟨p, 0, none⟩)] w (GivesPar p v (setD d 4 (.bool true)) w) := by
  have h4 := h.ptr
  have hc := h.vc 4 (by decide)
  have hf := h.vf 4 (by decide)
  have H := Lib.hid h; clear h
  go_enter Tryz.func92, Tryz.ntmps92
  go_wp2
  go_returns
  exact GivesPar.setV H.out 4 (by decide) _

theorem opt93 (p v : Nat) (d : Nat → Value) (w : World) (h : ParAt w p v d) : Calls Tryz.prog 93 #[.pointer (some ⟨p, 0, none⟩)] w (GivesPar p v d w) := by
  obtain ⟨x, hc⟩ := h.pc 3 (by decide)
  have hf := h.pf 3 (by decide)
  have H := Lib.hid h; clear h
  go_enter Tryz.func93, Tryz.ntmps93
  go_wp2
  go_returns
  exact GivesPar.setP H.out 3 (by decide) (by decide) _

theorem opt94 (p v : Nat) (d : Nat → Value) (w : World) (h : ParAt w p v d) : Calls Tryz.prog 94 #[.pointer (some ⟨p, 0, none⟩)] w (GivesPar p v d w) := by
  obtain ⟨x, hc⟩ := h.pc 6 (by decide)
  have hf := h.pf 6 (by decide)
  have H := Lib.hid h; clear h
  go_enter Tryz.func94, Tryz.ntmps94
  go_wp2
  go_returns
  exact GivesPar.setP H.out 6 (by decide) (by decide) _

theorem opt95 (p v : Nat) (d : Nat → Value) (w : World) (h : ParAt w p v d) : Calls Tryz.prog 95 #[.pointer (some ⟨p, 0, none⟩)] w (GivesPar p v d w) := by
  obtain ⟨x, hc⟩ := h.pc 5 (by decide)
  have hf := h.pf 5 (by decide)
  have H := Lib.hid h; clear h
  go_enter Tryz.func95, Tryz.ntmps95
  go_wp2
  go_returns
  exact GivesPar.setP H.out 5 (by decide) (by decide) _

set_option maxRecDepth 100000 in
set_option maxHeartbeats 1000000 in
theorem opt83 (p v bx : Nat) (bs : Nat) (d : Nat → Value) (w : World) (h : ParAt w p v d) (hx : w.cell? ⟨bx, 0, none⟩ = some (.func (.func 50) #[] #[.pointer (some ⟨bs, 0, none⟩)])) (hbv : bx ≠ v) : Calls Tryz.prog 83 #[.pointer (some ⟨p, 0, none⟩), .pointer (some ⟨bx, 0, none⟩)] w (GivesPar p v (setD d 1 (.func (.func 50) #[] #[.pointer (some ⟨bs, 0, none⟩)])) w) := by
  have h4 := h.ptr
  have hc := h.vc 1 (by decide)
  have hf := h.vf 1 (by decide)
  have k1 : (w.setCell ⟨v, 1, none⟩ (.func (.func 50) #[] #[.pointer (some ⟨bs, 0, none⟩)])).cell? ⟨p, 4, none⟩ = some (.pointer (some ⟨v, 0, none⟩)) := (World.cell?_setCell_other _ _ _ _ (fun e => h.ne (Addr.mk.inj e).1.symm)).trans h4
  have k2 : (w.setCell ⟨v, 1, none⟩ (.func (.func 50) #[] #[.pointer (some ⟨bs, 0, none⟩)])).cell? ⟨bx, 0, none⟩ = some (.func (.func 50) #[] #[.pointer (some ⟨bs, 0, none⟩)]) := (World.cell?_setCell_other _ _ _ _ (fun e => hbv (Addr.mk.inj e).1.symm)).trans hx
  have H := Lib.hid h; clear h
  go_enter Tryz.func83, Tryz.ntmps83
  go_wp2
  go_region_held3 (fun w' => w'.cell? ⟨p, 4, none⟩ = some (.pointer (some ⟨v, 0, none⟩)) ∧ w'.cell? ⟨bx, 0, none⟩ = some (.func (.func 50) #[] #[.pointer (some ⟨bs, 0, none⟩)])) (first | go_keep | exact ⟨k1, k2⟩) (fail)
  go_wp2
  go_returns
  exact (GivesPar.setV H.out 1 (by decide) _).drew

set_option maxRecDepth 100000 in
set_option maxHeartbeats 1000000 in
theorem opt84 (p v bx : Nat) (n : Int) (d : Nat → Value) (w : World) (h : ParAt w p v d) (hx : w.cell? ⟨bx, 0, none⟩ = some (.int .i64 n)) (hbv : bx ≠ v) : Calls Tryz.prog 84 #[.pointer (some ⟨p, 0, none⟩), .pointer (some ⟨bx, 0, none⟩)] w (GivesPar p v (setD d 0 (.int .i64 n)) w) := by
  have h4 := h.ptr
  have hc := h.vc 0 (by decide)
  have hf := h.vf 0 (by decide)
  have k1 : (w.setCell ⟨v, 0, none⟩ (.int .i64 n)).cell? ⟨p, 4, none⟩ = some (.pointer (some ⟨v, 0, none⟩)) := (World.cell?_setCell_other _ _ _ _ (fun e => h.ne (Addr.mk.inj e).1.symm)).trans h4
  have k2 : (w.setCell ⟨v, 0, none⟩ (.int .i64 n)).cell? ⟨bx, 0, none⟩ = some (.int .i64 n) := (World.cell?_setCell_other _ _ _ _ (fun e => hbv (Addr.mk.inj e).1.symm)).trans hx
  have H := Lib.hid h; clear h
  go_enter Tryz.func84, Tryz.ntmps84
  go_wp2
  go_region_held3 (fun w' => w'.cell? ⟨p, 4, none⟩ = some (.pointer (some ⟨v, 0, none⟩)) ∧ w'.cell? ⟨bx, 0, none⟩ = some (.int .i64 n)) (first | go_keep | exact ⟨k1, k2⟩) (fail)
  go_wp2
  go_returns
  exact (GivesPar.setV H.out 0 (by decide) _).drew

set_option maxRecDepth 100000 in
set_option maxHeartbeats 1000000 in
theorem opt87 (p v bx : Nat) (a : Option Addr) (n c : Nat) (d : Nat → Value) (w : World) (h : ParAt w p v d) (hx : w.cell? ⟨bx, 0, none⟩ = some (.slice a n c)) (hbv : bx ≠ v) : Calls Tryz.prog 87 #[.pointer (some ⟨p, 0, none⟩), .pointer (some ⟨bx, 0, none⟩)] w (GivesPar p v (setD d 5 (.slice a n c)) w) := by
  have h4 := h.ptr
  have hc := h.vc 5 (by decide)
  have hf := h.vf 5 (by decide)
  have k1 : (w.setCell ⟨v, 5, none⟩ (.slice a n c)).cell? ⟨p, 4, none⟩ = some (.pointer (some ⟨v, 0, none⟩)) := (World.cell?_setCell_other _ _ _ _ (fun e => h.ne (Addr.mk.inj e).1.symm)).trans h4
  have k2 : (w.setCell ⟨v, 5, none⟩ (.slice a n c)).cell? ⟨bx, 0, none⟩ = some (.slice a n c) := (World.cell?_setCell_other _ _ _ _ (fun e => hbv (Addr.mk.inj e).1.symm)).trans hx
  have H := Lib.hid h; clear h
  go_enter Tryz.func87, Tryz.ntmps87
  go_wp2
  go_region_held3 (fun w' => w'.cell? ⟨p, 4, none⟩ = some (.pointer (some ⟨v, 0, none⟩)) ∧ w'.cell? ⟨bx, 0, none⟩ = some (.slice a n c)) (first | go_keep | exact ⟨k1, k2⟩) (fail)
  go_wp2
  go_returns
  exact (GivesPar.setV H.out 5 (by decide) _).drew

set_option maxRecDepth 100000 in
set_option maxHeartbeats 1000000 in
theorem opt88 (p v bx : Nat) (s : ByteArray) (d : Nat → Value) (w : World) (h : ParAt w p v d) (hx : w.cell? ⟨bx, 0, none⟩ = some (.string s)) (hbv : bx ≠ v) : Calls Tryz.prog 88 #[.pointer (some ⟨p, 0, none⟩), .pointer (some ⟨bx, 0, none⟩)] w (GivesPar p v (setD d 7 (.string s)) w) := by
  have h4 := h.ptr
  have hc := h.vc 7 (by decide)
  have hf := h.vf 7 (by decide)
  have k1 : (w.setCell ⟨v, 7, none⟩ (.string s)).cell? ⟨p, 4, none⟩ = some (.pointer (some ⟨v, 0, none⟩)) := (World.cell?_setCell_other _ _ _ _ (fun e => h.ne (Addr.mk.inj e).1.symm)).trans h4
  have k2 : (w.setCell ⟨v, 7, none⟩ (.string s)).cell? ⟨bx, 0, none⟩ = some (.string s) := (World.cell?_setCell_other _ _ _ _ (fun e => hbv (Addr.mk.inj e).1.symm)).trans hx
  have H := Lib.hid h; clear h
  go_enter Tryz.func88, Tryz.ntmps88
  go_wp2
  go_region_held3 (fun w' => w'.cell? ⟨p, 4, none⟩ = some (.pointer (some ⟨v, 0, none⟩)) ∧ w'.cell? ⟨bx, 0, none⟩ = some (.string s)) (first | go_keep | exact ⟨k1, k2⟩) (fail)
  go_wp2
  go_returns
  exact (GivesPar.setV H.out 7 (by decide) _).drew

set_option maxRecDepth 100000 in
set_option maxHeartbeats 1000000 in
theorem opt89 (p v bx : Nat) (s : ByteArray) (d : Nat → Value) (w : World) (h : ParAt w p v d) (hx : w.cell? ⟨bx, 0, none⟩ = some (.string s)) (hbv : bx ≠ v) : Calls Tryz.prog 89 #[.pointer (some ⟨p, 0, none⟩), .pointer (some ⟨bx, 0, none⟩)] w (GivesPar p v (setD d 8 (.string s)) w) := by
  have h4 := h.ptr
  have hc := h.vc 8 (by decide)
  have hf := h.vf 8 (by decide)
  have k1 : (w.setCell ⟨v, 8, none⟩ (.string s)).cell? ⟨p, 4, none⟩ = some (.pointer (some ⟨v, 0, none⟩)) := (World.cell?_setCell_other _ _ _ _ (fun e => h.ne (Addr.mk.inj e).1.symm)).trans h4
  have k2 : (w.setCell ⟨v, 8, none⟩ (.string s)).cell? ⟨bx, 0, none⟩ = some (.string s) := (World.cell?_setCell_other _ _ _ _ (fun e => hbv (Addr.mk.inj e).1.symm)).trans hx
  have H := Lib.hid h; clear h
  go_enter Tryz.func89, Tryz.ntmps89
  go_wp2
  go_region_held3 (fun w' => w'.cell? ⟨p, 4, none⟩ = some (.pointer (some ⟨v, 0, none⟩)) ∧ w'.cell? ⟨bx, 0, none⟩ = some (.string s)) (first | go_keep | exact ⟨k1, k2⟩) (fail)
  go_wp2
  go_returns
  exact (GivesPar.setV H.out 8 (by decide) _).drew

theorem opt85 (p v bx : Nat) (a : Option Addr) (n c : Nat) (d : Nat → Value) (w : World) (h : ParAt w p v d) (hx : w.cell? ⟨bx, 0, none⟩ = some (.slice a n c)) : Calls Tryz.prog 85 #[.pointer (some ⟨p, 0, none⟩), .pointer (some ⟨bx, 0, none⟩)] w (GivesPar p v d w) := by
  obtain ⟨x, hc⟩ := h.pc 0 (by decide)
  have hf := h.pf 0 (by decide)
  have H := Lib.hid h; clear h
  go_enter Tryz.func85, Tryz.ntmps85
  go_wp2
  go_returns
  exact GivesPar.setP H.out 0 (by decide) (by decide) _

set_option maxRecDepth 100000 in
set_option maxHeartbeats 1000000 in
theorem opt86 (p v bx : Nat) (a : Option Addr) (n c : Nat) (d : Nat → Value) (w : World) (h : ParAt w p v d) (hx : w.cell? ⟨bx, 0, none⟩ = some (.slice a n c)) (hbv : bx ≠ v) : Calls Tryz.prog 86 #[.pointer (some ⟨p, 0, none⟩), .pointer (some ⟨bx, 0, none⟩)] w (GivesPar p v (setD (setD d 5 (.slice a n c)) 6 (.bool true)) w) := by
  have h4 := h.ptr
  have hc := h.vc 5 (by decide)
  have hf := h.vf 5 (by decide)
  have k1 : (w.setCell ⟨v, 5, none⟩ (.slice a n c)).cell? ⟨p, 4, none⟩ = some (.pointer (some ⟨v, 0, none⟩)) := (World.cell?_setCell_other _ _ _ _ (fun e => h.ne (Addr.mk.inj e).1.symm)).trans h4
  have k2 : (w.setCell ⟨v, 5, none⟩ (.slice a n c)).cell? ⟨bx, 0, none⟩ = some (.slice a n c) := (World.cell?_setCell_other _ _ _ _ (fun e => hbv (Addr.mk.inj e).1.symm)).trans hx
  have h1 := GivesPar.setV h 5 (by decide) (.slice a n c)
  have hc6 := h1.2.1.vc 6 (by decide)
  have hf6 := h1.2.1.vf 6 (by decide)
  have H := Lib.hid h1; clear h1 h
  go_enter Tryz.func86, Tryz.ntmps86
  go_wp2
  go_region_held3 (fun w' => w'.cell? ⟨p, 4, none⟩ = some (.pointer (some ⟨v, 0, none⟩)) ∧ w'.cell? ⟨bx, 0, none⟩ = some (.slice a n c)) (first | go_keep | exact ⟨k1, k2⟩) (fail)
  go_wp2
  go_returns
  have h2 := GivesPar.setV H.out.drew.2.1 6 (by decide) (.bool true)
  exact ⟨rfl, h2.2.1, fun B b1 b2 => (H.out.drew.2.2 B b1 b2).trans (h2.2.2 B b1 b2)⟩
end Go.Proofs.YtgaaehpmbkjhlaaGreatDoor
