/- The sixteen sentinels, and the errors that the package makes of them. -/
import Derived.Test.YtgaaehpmbkjhlaaGreatDoorWAudOf
import Derived.Handy
import Derived.LaidEql
namespace Go.Proofs.YtgaaehpmbkjhlaaGreatDoor
open Go Go.RowKit

/-- The sixteen sentinels, by the numbers of the variables. -/
structure Sen (w : World) (se : Nat → Addr) : Prop where
  glob : ∀ k, k < 16 → w.cell? ⟨k, 0, none⟩ = some (.iface 208 (.pointer (some (se k))))
  text : ∀ k, k < 16 → ∃ s : ByteArray, w.cell? (se k) = some (.string s) ∧ s.size ≤ 100
  row : ∀ k, k < 16 → ∃ cs t, w.heap[(se k).block]? = some (.cells cs t (0, 0))
  inj : ∀ i j, i < 16 → j < 16 → se i = se j → i = j

abbrev snt (a : Addr) : Value := .iface 208 (.pointer (some a))

theorem cell_below {w w' : World} {a : Addr} {v : Value} (h : w.cell? a = some v) (hb : Below w.heap.size w w') : w'.cell? a = some v := (hb.cell (p := a) (World.block_lt_of_cell? w _ h)).trans h
theorem Sen.below {w w' : World} {se : Nat → Addr} (h : Sen w se) (hb : Below w.heap.size w w') : Sen w' se :=
  ⟨fun k hk => cell_below (h.glob k hk) hb, fun k hk => let ⟨s, h1, h2⟩ := h.text k hk; ⟨s, cell_below h1 hb, h2⟩, fun k hk => let ⟨cs, t, h1⟩ := h.row k hk; ⟨cs, t, (hb.block _ (Array.getElem?_eq_some_iff.1 h1).1).trans h1⟩, h.inj⟩

/-- A value that is a sentinel, or one that wraps it, in blocks from B on. -/
inductive ErrAt (w : World) (a : Addr) (B : Nat) : Value → Prop
  | plain : ErrAt w a B (snt a)
  | wrapped (b c : Nat) (h1 : w.cell? ⟨b, 1, none⟩ = some (.slice (some ⟨c, 0, none⟩) 1 1)) (h2 : w.cell? ⟨c, 0, none⟩ = some (snt a)) (l1 : B ≤ b) (l2 : B ≤ c) : ErrAt w a B (.iface 148 (.pointer (some ⟨b, 0, none⟩)))

theorem ErrAt.below {w w' : World} {a : Addr} {B : Nat} {v : Value} (h : ErrAt w a B v) (hb : Below w.heap.size w w') : ErrAt w' a B v := by
  cases h with
  | plain => exact .plain
  | wrapped b c h1 h2 l1 l2 => exact .wrapped b c (cell_below h1 hb) (cell_below h2 hb) l1 l2
theorem ErrAt.mono {w : World} {a : Addr} {B B' : Nat} {v : Value} (h : ErrAt w a B v) (hB : B' ≤ B) : ErrAt w a B' v := by
  cases h with
  | plain => exact .plain
  | wrapped b c h1 h2 l1 l2 => exact .wrapped b c h1 h2 (Nat.le_trans hB l1) (Nat.le_trans hB l2)
theorem ErrAt.form {w : World} {a : Addr} {B : Nat} {v : Value} (h : ErrAt w a B v) : ∃ T y, v = .iface T y := by
  cases h with
  | plain => exact ⟨_, _, rfl⟩
  | wrapped b c h1 h2 l1 l2 => exact ⟨_, _, rfl⟩

theorem errText (a : Addr) (s : ByteArray) (w : World) (h : w.cell? a = some (.string s)) : Calls Tryz.prog 228 #[.pointer (some a)] w fun e w' => e = .returned (.string s) ∧ w = w' := by
  obtain ⟨b, o, i⟩ := a
  go_enter Tryz.func228, Tryz.ntmps228
  go_wp2
  go_ret
  exact ⟨rfl, rfl⟩

/-- The call gives an error that is, or wraps, a sentinel. -/
def GivesErr (a : Addr) (w : World) (e : Ending) (w' : World) : Prop := ∃ v, e = .returned v ∧ ErrAt w' a w.heap.size v ∧ Below w.heap.size w w'

set_option maxRecDepth 100000 in
set_option maxHeartbeats 400000 in
theorem newError_is (m s : ByteArray) (a : Addr) (w : World) (hc : w.cell? a = some (.string s)) (hm : m.size ≤ 1000) (hs : s.size ≤ 1000) :
    Calls Tryz.prog 80 #[.string m, snt a, .slice none 0 0] w (GivesErr a w) := by
  have h228 := errText a s
  have H := Lib.hid h228; clear h228
  have hM : maxLen = 9223372036854775807 := rfl
  unfold snt
  rcases Bool.eq_false_or_eq_true (m.toList == []) with hb | hb
  all_goals
    go_enter Tryz.func80, Tryz.ntmps80
    go_wp2_with (first | (go_at_call 228; refine (H.out _ hc).mono ?_; rintro e w' ⟨rfl, rfl⟩) | go_in)
    refine wp_loop_rounds 1 ?_
    rw [rounds_succ]
    go_wp2
    go_ret
    exact ⟨_, rfl, .wrapped _ w.heap.size (by simp [go_sem]) (by simp [go_sem]) (by omega) (Nat.le_refl _), by go_grown⟩

theorem errorIfFalse_true (v : Value) (w : World) : Calls Tryz.prog 97 #[.bool true, v] w fun e w' => e = .returned .nilIface ∧ w = w' := by
  go_enter Tryz.func97, Tryz.ntmps97
  go_wp2
  go_ret
  exact ⟨rfl, rfl⟩
theorem errorIfFalse_false (T : TypeId) (y : Value) (w : World) : Calls Tryz.prog 97 #[.bool false, .iface T y] w fun e w' => e = .returned (.iface T y) ∧ w = w' := by
  go_enter Tryz.func97, Tryz.ntmps97
  go_wp2
  go_ret
  exact ⟨rfl, rfl⟩

theorem errorIfRequired_no (s : ByteArray) (w : World) : Calls Tryz.prog 96 #[.bool false, .string s] w fun e w' => e = .returned .nilIface ∧ w = w' := by
  go_enter Tryz.func96, Tryz.ntmps96
  go_wp2
  go_ret
  exact ⟨rfl, rfl⟩
set_option maxRecDepth 100000 in
theorem errorIfRequired_yes (s : ByteArray) (se : Nat → Addr) (w : World) (hse : Sen w se) (hs : s.size ≤ 100) : Calls Tryz.prog 96 #[.bool true, .string s] w (GivesErr (se 3) w) := by
  have hg := hse.glob 3 (by decide)
  obtain ⟨t, ht, h100⟩ := hse.text 3 (by decide)
  have HT := Lib.hid ht; clear ht
  clear hse
  go_enter Tryz.func96, Tryz.ntmps96
  go_wp2_with (first | (go_at_call 80; refine (newError_is _ t (se 3) w HT.out (by rw [ByteArray.size_append]; exact Nat.le_trans (Nat.add_le_add_right hs _) (by decide)) (by omega)).mono ?_; rintro e w' ⟨v, rfl, hv, hb⟩; obtain ⟨T, y, rfl⟩ := hv.form) | go_in)
  go_ret
  exact ⟨_, rfl, hv, hb⟩

theorem joinErrors_is (sl : Option Addr) (n c : Nat) (w : World) : Calls Tryz.prog 71 #[.slice sl n c] w fun e w' => ∃ b, e = .returned (.iface 138 (.pointer (some ⟨b, 0, none⟩))) ∧ w'.cell? ⟨b, 0, none⟩ = some (.slice sl n c) ∧ Below w.heap.size w w' := by
  go_enter Tryz.func71, Tryz.ntmps71
  go_wp2
  go_ret
  exact ⟨_, rfl, by simp [go_sem], by go_grown⟩
end Go.Proofs.YtgaaehpmbkjhlaaGreatDoor
