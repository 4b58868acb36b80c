/- impl.short takes texts of at most 4096 bytes, fifty at most. -/
import Derived.Test.YtgaaehpmbkjhlaaGreatDoorMem
namespace Go.Proofs.YtgaaehpmbkjhlaaGreatDoor
open Go Go.RowKit

/-- Texts lie one behind the other. -/
def StrsAt (w : World) (a : Option Addr) (n : Nat) (ss : List ByteArray) : Prop :=
  ss.length = n ∧ (n ≠ 0 → ∃ b o, a = some ⟨b, o, none⟩ ∧ b < w.heap.size ∧ ∀ j (h : j < ss.length), w.cell? ⟨b, o + j, none⟩ = some (.string ss[j]))

theorem StrsAt.below {w w' : World} {a : Option Addr} {n : Nat} {ss : List ByteArray} (h : StrsAt w a n ss) (hb : Below w.heap.size w w') : StrsAt w' a n ss :=
  ⟨h.1, fun hl => let ⟨b, o, e, hlt, hc⟩ := h.2 hl; ⟨b, o, e, Nat.lt_of_lt_of_le hlt hb.size, fun j hj => (hb.cell (p := ⟨b, _, none⟩) hlt).trans (hc j hj)⟩⟩

theorem shortOne (s : ByteArray) (w : World) (hs : s.size ≤ 4096) : Calls Tryz.prog 74 #[.string s] w fun e w' => e = .returned (.bool false) ∧ w = w' := by
  go_enter Tryz.func74, Tryz.ntmps74
  go_wp2
  go_ret
  exact ⟨by simp; omega, rfl⟩

set_option maxHeartbeats 400000 in
theorem indexStrs (b o n cap : Nat) (ss : List ByteArray) (w : World) (hn : ss.length = n) (hmax : n ≤ 9223372036854775807) (hc : ∀ j (h : j < ss.length), w.cell? ⟨b, o + j, none⟩ = some (.string ss[j])) (hsz : ∀ s ∈ ss, s.size ≤ 4096) :
    Calls Tryz.prog 101 #[.slice (some ⟨b, o, none⟩) n cap, .func (.func 74) #[] #[]] w fun e w' => e = .returned (.int .i64 (-1)) ∧ w = w' := by
  have HN := Lib.hid hn; clear hn
  have HC := Lib.hid hc; clear hc
  have HS := Lib.hid hsz; clear hsz
  go_enter Tryz.func101, Tryz.ntmps101
  go_wp2
  go_loop [8] (fun i => ∃ k : Nat, k ≤ n ∧ i = .int .i64 k) (fun i => n - (intOf i).toNat)
  case atStart => exact ⟨0, Nat.zero_le _, rfl⟩
  case round =>
    obtain ⟨k, hk, rfl⟩ := hrel
    by_cases hlt : k < n
    · have hk' : k < ss.length := by rw [HN.out]; exact hlt
      have e0 := HC.out k hk'
      have hs0 := HS.out _ (List.getElem_mem hk')
      obtain ⟨s, hs⟩ : ∃ s, s = ss[k] := ⟨_, rfl⟩
      rw [← hs] at e0 hs0
      clear hs
      go_wp2_with (go_at_call 74; refine (shortOne _ _ hs0).mono ?_; rintro e w' ⟨rfl, rfl⟩)
      exact ⟨⟨k + 1, by omega, by go_num⟩, by simp [intOf]; omega⟩
    · go_wp2
      go_ret
      exact ⟨rfl, rfl⟩

theorem indexStrs_none (a : Option Addr) (cap : Nat) (w : World) : Calls Tryz.prog 101 #[.slice a 0 cap, .func (.func 74) #[] #[]] w fun e w' => e = .returned (.int .i64 (-1)) ∧ w = w' := by
  go_enter Tryz.func101, Tryz.ntmps101
  go_wp2
  refine wp_loop_rounds 1 ?_
  rw [rounds_succ]
  go_wp2
  go_ret
  exact ⟨rfl, rfl⟩

theorem short_true (a : Option Addr) (n cap : Nat) (ss : List ByteArray) (w : World) (h : StrsAt w a n ss) (hn : n ≤ 50) (hsz : ∀ s ∈ ss, s.size ≤ 4096) :
    Calls Tryz.prog 40 #[.slice a n cap] w fun e w' => e = .returned (.bool true) ∧ w = w' := by
  obtain ⟨hl, hs⟩ := h
  have hI : Calls Tryz.prog 101 #[.slice a n cap, .func (.func 74) #[] #[]] w fun e w' => e = .returned (.int .i64 (-1)) ∧ w = w' := by
    by_cases h0 : n = 0
    · subst h0; exact indexStrs_none a cap w
    · obtain ⟨b, o, rfl, _, hc⟩ := hs h0
      exact indexStrs b o n cap ss w hl (by omega) hc hsz
  have HI := Lib.hid hI; clear hI hs hl hsz
  go_enter Tryz.func40, Tryz.ntmps40
  go_wp2_with (first | (go_at_call 101; refine HI.out.mono ?_; rintro e w' ⟨rfl, rfl⟩) | go_in)
  go_ret
  exact ⟨rfl, rfl⟩

theorem within_true (n : Int) (w : World) (h1 : -1000000000000000 ≤ n) (h2 : n ≤ 1000000000000000) : Calls Tryz.prog 46 #[.int .i64 n] w fun e w' => e = .returned (.bool true) ∧ w = w' := by
  go_enter Tryz.func46, Tryz.ntmps46
  go_wp2
  go_ret
  exact ⟨rfl, rfl⟩
end Go.Proofs.YtgaaehpmbkjhlaaGreatDoor
