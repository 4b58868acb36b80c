/- laws.sameNumbers of equal numbers. No conditions. -/
import Derived.Test.YtgaaehpmbkjhlaaGreatDoorWNums
import Derived.Deep.QuietTactic
import Derived.BigQuiet
namespace Go.Proofs.YtgaaehpmbkjhlaaGreatDoor
open Go Go.RowKit

/-- Numbers lie in memory. -/
def IntsAt (w : World) (sl : Value) (l : List Nat) : Prop := ∃ a c, sl = .slice a l.length c ∧ (l.length ≠ 0 → ∃ b, a = some ⟨b, 0, none⟩ ∧ ∀ j (h : j < l.length), w.cell? ⟨b, j, none⟩ = some (intV l[j]))
theorem IntsAt.below {w w' : World} {sl : Value} {l : List Nat} (h : IntsAt w sl l) (hb : Below w.heap.size w w') : IntsAt w' sl l := by
  obtain ⟨a, c, e, h⟩ := h
  exact ⟨a, c, e, fun h0 => let ⟨b, e, hc⟩ := h h0; ⟨b, e, fun j hj => cell_below (hc j hj) hb⟩⟩
theorem ints_of_own {w : World} {B : Nat} {sl : Value} {l : List Nat} (h : w.ownsRow B 3 1 sl l.length (l.map intV)) : IntsAt w sl l := by
  rcases h.2 with ⟨rfl, h0⟩ | ⟨g, cap, cur, rfl, _, hh, _⟩
  · exact ⟨none, 0, by rw [h0], fun h => absurd h0 h⟩
  · refine ⟨_, _, rfl, fun _ => ⟨g, rfl, fun j hj => ?_⟩⟩
    have := h.cells (g := g) rfl j (intV l[j]) (by simp [hj])
    rwa [show ((⟨g, 0, none⟩ : Addr).add j) = ⟨g, j, none⟩ by unfold Addr.add; split <;> simp_all] at this

set_option maxHeartbeats 1000000 in
theorem same_true (s1 s2 : Value) (l : List Nat) (w : World) (h1 : IntsAt w s1 l) (h2 : IntsAt w s2 l) (hl : l.length ≤ 1000) : Calls Tryz.prog 14 #[s1, s2] w (YesB true w) := by
  obtain ⟨a1, c1, rfl, h1⟩ := h1
  obtain ⟨a2, c2, rfl, h2⟩ := h2
  obtain ⟨n, hn⟩ : ∃ n, n = l.length := ⟨_, rfl⟩
  have H1 := Lib.hid h1; clear h1
  have H2 := Lib.hid h2; clear h2
  rw [← hn] at hl ⊢
  have HN := Lib.hid hn; clear hn
  go_enter Tryz.func14, Tryz.ntmps14
  go_wp2
  go_loopw [13] (fun i wr => ∃ j : Nat, j ≤ n ∧ i = .int .i64 j ∧ Below w.heap.size w wr) (fun i _ => n - (intOf i).toNat)
  case atStart => exact ⟨0, Nat.zero_le _, rfl, Below.refl _ _⟩
  case round =>
    obtain ⟨j, hj, rfl, hb6⟩ := hrel
    have HB6 := Lib.hid hb6; clear hb6
    by_cases hjm : j < n
    · have hjs : j < l.length := by rw [← HN.out]; exact hjm
      obtain ⟨g1, rfl, hc1⟩ := H1.out (by rw [← HN.out]; omega)
      obtain ⟨g2, rfl, hc2⟩ := H2.out (by rw [← HN.out]; omega)
      have k1 := cell_below (hc1 j hjs) HB6.out
      have k2 := cell_below (hc2 j hjs) HB6.out
      unfold intV at k1 k2
      generalize l[j] = t at k1 k2
      clear hc1 hc2 hjs
      have i1 : (0 : Int) ≤ (j : Int) := by omega
      have i2 : (j : Int) < (n : Int) := by omega
      go_wp2
      go_quiet (fail)
      go_wp2
      exact ⟨⟨j + 1, by omega, by go_num, below_drewN HB6.out _⟩, by simp [intOf]; omega⟩
    · go_wp2
      go_ret
      exact ⟨rfl, HB6.out⟩
end Go.Proofs.YtgaaehpmbkjhlaaGreatDoor
