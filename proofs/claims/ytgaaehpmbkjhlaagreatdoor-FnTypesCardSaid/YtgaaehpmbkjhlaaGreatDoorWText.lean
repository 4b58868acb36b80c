/- A text of claims is checked: what isText and isTextValue tell. -/
import Derived.Test.YtgaaehpmbkjhlaaGreatDoorBase
namespace Go.Proofs.YtgaaehpmbkjhlaaGreatDoor
open Go Go.RowKit

set_option maxHeartbeats 400000 in
theorem isText_tells (s : ByteArray) (w : World) (hs : s.size ≤ maxLen) : Calls Tryz.prog 30 #[.string s] w (TellsQ (IsTextP s) w) := by
  unfold maxLen at hs
  go_enter Tryz.func30, Tryz.ntmps30
  go_wp2
  go_loop [3] (fun i => ∃ k : Nat, k ≤ s.size ∧ i = .int .i64 k) (fun i => s.size - (intOf i).toNat)
  case atStart => exact ⟨0, Nat.zero_le _, rfl⟩
  case round =>
    obtain ⟨k, hk, rfl⟩ := hrel
    by_cases hlt : k < s.size
    · go_wp2
      · go_ret
        exact TellsQ.no
      · exact ⟨⟨k + 1, by omega, by go_num⟩, by simp [intOf]; omega⟩
      · go_ret
        exact TellsQ.no
    · go_wp2
      · go_ret
        refine TellsQ.yes fun h => ?_
        have h1 : 1 ≤ (s.size : Int) := by assumption
        simp at h
        exact ⟨by omega, by omega⟩
      · go_ret
        exact TellsQ.no

/-- A value of the claims, as its four cells: kind, text, number, list. -/
structure V where
  k : Int
  t : ByteArray
  n : Int
  la : Option Addr
  ln : Nat
  lc : Nat
def V.agg (v : V) : Value := .agg #[.int .i64 v.k, .string v.t, .int .i64 v.n, .slice v.la v.ln v.lc]
/-- What a text value is. -/
def IsTextV (v : V) : Prop := v.k = 1 ∧ IsTextP v.t ∧ v.n = 0 ∧ v.ln = 0

set_option maxHeartbeats 400000 in
theorem isTextValue_tells (v : V) (w : World) (hs : v.t.size ≤ maxLen) : Calls Tryz.prog 16 #[v.agg] w (Tells (IsTextV v) w) := by
  obtain ⟨k, t, n, la, ln, lc⟩ := v
  unfold V.agg
  by_cases hk : k = 1
  · subst hk
    go_enter Tryz.func16, Tryz.ntmps16
    go_wp2_with (go_at_call 30; refine (isText_tells _ _ hs).mono ?_; rintro e w' ⟨r, rfl, hr, rfl⟩)
    all_goals go_ret
    · refine Tells.yes (fun h => ⟨rfl, hr (by assumption), by assumption, by simpa using h⟩) (below1 _ _)
    · exact Tells.no (below1 _ _)
    · exact Tells.no (below1 _ _)
  · go_enter Tryz.func16, Tryz.ntmps16
    go_wp2
    go_ret
    exact Tells.no (below1 _ _)
end Go.Proofs.YtgaaehpmbkjhlaaGreatDoor
