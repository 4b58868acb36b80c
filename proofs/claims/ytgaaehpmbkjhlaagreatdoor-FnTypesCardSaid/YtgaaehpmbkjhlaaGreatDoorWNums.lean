/- impl.numbersOf tells the numbers of the sentinels within joined errors. -/
import Derived.Test.YtgaaehpmbkjhlaaGreatDoorWIs
namespace Go.Proofs.YtgaaehpmbkjhlaaGreatDoor
open Go Go.RowKit

theorem Tryz.info3 : (Tryz.prog.info? 3).map (fun i => (i.zero, i.size, i.bytes)) = some (some (.int .i64 0), 1, 8) := by kernel_rfl

/-- The numbers of the first m sentinels that are among ks. -/
def numsTo (ks : List Nat) (m : Nat) : List Nat := ((List.range m).filter (· ∈ ks)).map (· + 1)
theorem numsTo_yes {ks : List Nat} {m : Nat} (h : m ∈ ks) : numsTo ks (m + 1) = numsTo ks m ++ [m + 1] := by
  unfold numsTo
  rw [List.range_succ, List.filter_append, List.map_append]
  simp [h]
theorem numsTo_no {ks : List Nat} {m : Nat} (h : m ∉ ks) : numsTo ks (m + 1) = numsTo ks m := by
  unfold numsTo
  rw [List.range_succ, List.filter_append, List.map_append]
  simp [h]
theorem numsTo_le (ks : List Nat) (m : Nat) : (numsTo ks m).length ≤ m := by
  unfold numsTo
  rw [List.length_map]
  exact Nat.le_trans (List.length_filter_le _ _) (by simp)

def intV (k : Nat) : Value := .int .i64 (k : Int)
/-- Numbers in memory of the call's own. -/
def GivesInts (l : List Nat) (w : World) (e : Ending) (w' : World) : Prop :=
  ∃ sl, e = .returned sl ∧ w'.ownsRow w.heap.size 3 1 sl l.length (l.map intV) ∧ Below w.heap.size w w'

theorem numbersOf_nil (w : World) : Calls Tryz.prog 32 #[.nilIface] w (GivesInts [] w) := by
  go_enter Tryz.func32, Tryz.ntmps32
  go_wp2
  go_ret
  exact ⟨_, rfl, World.ownsRow_nil _ _ _ _, Below.refl _ _⟩

set_option maxRecDepth 100000 in
set_option maxHeartbeats 1000000 in
theorem numbersOf_joined (se : Nat → Addr) (ks : List Nat) (b g n c : Nat) (w : World) (hse : Sen w se) (h1 : w.cell? ⟨b, 0, none⟩ = some (.slice (some ⟨g, 0, none⟩) n c)) (hn : ks.length = n) (hmax : n ≤ 1000) (h : ErrsAt w se g ks) :
    Calls Tryz.prog 32 #[.iface 138 (.pointer (some ⟨b, 0, none⟩))] w (GivesInts (numsTo ks 16) w) := by
  have g0 := hse.glob 0 (by decide)
  have g1 := hse.glob 1 (by decide)
  have g2 := hse.glob 2 (by decide)
  have g3 := hse.glob 3 (by decide)
  have g4 := hse.glob 4 (by decide)
  have g5 := hse.glob 5 (by decide)
  have g6 := hse.glob 6 (by decide)
  have g7 := hse.glob 7 (by decide)
  have g8 := hse.glob 8 (by decide)
  have g9 := hse.glob 9 (by decide)
  have g10 := hse.glob 10 (by decide)
  have g11 := hse.glob 11 (by decide)
  have g12 := hse.glob 12 (by decide)
  have g13 := hse.glob 13 (by decide)
  have g14 := hse.glob 14 (by decide)
  have g15 := hse.glob 15 (by decide)
  have hIS : ∀ (m : Nat) (wr : World), m < 16 → Below w.heap.size w wr → Calls Tryz.prog 47 #[.iface 138 (.pointer (some ⟨b, 0, none⟩)), snt (se m)] wr (Gives (.bool (decide (m ∈ ks))) wr) := fun m wr hm hb =>
    isJoined se ks m b g n c wr (hse.below hb) hm (cell_below h1 hb) hn hmax (h.below hb)
  have HIS := Lib.hid hIS; clear hIS
  clear hse h1 hn h
  obtain ⟨i0, hi, hz0, hz1, hz2⟩ := info_parts Tryz.info3
  go_enter Tryz.func32, Tryz.ntmps32
  go_wp2
  clear g0 g1 g2 g3 g4 g5 g6 g7 g8 g9 g10 g11 g12 g13 g14 g15
  have hW0 := below1 w (.cells #[.iface 208 (.pointer (some (se 0))), .iface 208 (.pointer (some (se 1))), .iface 208 (.pointer (some (se 2))), .iface 208 (.pointer (some (se 3))), .iface 208 (.pointer (some (se 4))), .iface 208 (.pointer (some (se 5))), .iface 208 (.pointer (some (se 6))), .iface 208 (.pointer (some (se 7))), .iface 208 (.pointer (some (se 8))), .iface 208 (.pointer (some (se 9))), .iface 208 (.pointer (some (se 10))), .iface 208 (.pointer (some (se 11))), .iface 208 (.pointer (some (se 12))), .iface 208 (.pointer (some (se 13))), .iface 208 (.pointer (some (se 14))), .iface 208 (.pointer (some (se 15)))] 51)
  have hsz : (w.alloc (.cells #[.iface 208 (.pointer (some (se 0))), .iface 208 (.pointer (some (se 1))), .iface 208 (.pointer (some (se 2))), .iface 208 (.pointer (some (se 3))), .iface 208 (.pointer (some (se 4))), .iface 208 (.pointer (some (se 5))), .iface 208 (.pointer (some (se 6))), .iface 208 (.pointer (some (se 7))), .iface 208 (.pointer (some (se 8))), .iface 208 (.pointer (some (se 9))), .iface 208 (.pointer (some (se 10))), .iface 208 (.pointer (some (se 11))), .iface 208 (.pointer (some (se 12))), .iface 208 (.pointer (some (se 13))), .iface 208 (.pointer (some (se 14))), .iface 208 (.pointer (some (se 15)))] 51)).heap.size = w.heap.size + 1 := by simp
  have hcell : ∀ m, m < 16 → (w.alloc (.cells #[.iface 208 (.pointer (some (se 0))), .iface 208 (.pointer (some (se 1))), .iface 208 (.pointer (some (se 2))), .iface 208 (.pointer (some (se 3))), .iface 208 (.pointer (some (se 4))), .iface 208 (.pointer (some (se 5))), .iface 208 (.pointer (some (se 6))), .iface 208 (.pointer (some (se 7))), .iface 208 (.pointer (some (se 8))), .iface 208 (.pointer (some (se 9))), .iface 208 (.pointer (some (se 10))), .iface 208 (.pointer (some (se 11))), .iface 208 (.pointer (some (se 12))), .iface 208 (.pointer (some (se 13))), .iface 208 (.pointer (some (se 14))), .iface 208 (.pointer (some (se 15)))] 51)).cell? ⟨w.heap.size, m, none⟩ = some (snt (se m)) := by
    intro m hm
    have : m = 0 ∨ m = 1 ∨ m = 2 ∨ m = 3 ∨ m = 4 ∨ m = 5 ∨ m = 6 ∨ m = 7 ∨ m = 8 ∨ m = 9 ∨ m = 10 ∨ m = 11 ∨ m = 12 ∨ m = 13 ∨ m = 14 ∨ m = 15 := by omega
    rcases this with rfl | rfl | rfl | rfl | rfl | rfl | rfl | rfl | rfl | rfl | rfl | rfl | rfl | rfl | rfl | rfl <;> simp [go_sem]
  generalize w.alloc (.cells #[.iface 208 (.pointer (some (se 0))), .iface 208 (.pointer (some (se 1))), .iface 208 (.pointer (some (se 2))), .iface 208 (.pointer (some (se 3))), .iface 208 (.pointer (some (se 4))), .iface 208 (.pointer (some (se 5))), .iface 208 (.pointer (some (se 6))), .iface 208 (.pointer (some (se 7))), .iface 208 (.pointer (some (se 8))), .iface 208 (.pointer (some (se 9))), .iface 208 (.pointer (some (se 10))), .iface 208 (.pointer (some (se 11))), .iface 208 (.pointer (some (se 12))), .iface 208 (.pointer (some (se 13))), .iface 208 (.pointer (some (se 14))), .iface 208 (.pointer (some (se 15)))] 51) = W0 at hW0 hsz hcell ⊢
  have HC := Lib.hid hcell; clear hcell
  have HW0 := Lib.hid hW0; clear hW0
  go_loopw [3, 26] (fun l i wr => ∃ k : Nat, k ≤ 16 ∧ i = .int .i64 k ∧ wr.ownsRow W0.heap.size 3 1 l (numsTo ks k).length ((numsTo ks k).map intV) ∧ Below W0.heap.size W0 wr) (fun _ i _ => 16 - (intOf i).toNat)
  case atStart => exact ⟨0, Nat.zero_le _, rfl, World.ownsRow_nil _ _ _ _, Below.refl _ _⟩
  case round =>
    obtain ⟨k, hk, rfl, hown, hb⟩ := hrel
    have HB := Lib.hid hb; clear hb
    have hb0 : Below w.heap.size w wr := HW0.out.trans (HB.out.mono (by omega))
    have HB0 := Lib.hid hb0; clear hb0
    have HO := Lib.hid hown; clear hown
    by_cases hlt : k < 16
    · have e0 := (HB.out.cell (p := ⟨w.heap.size, k, none⟩) (by simp; omega)).trans (HC.out k hlt)
      have hszr : W0.heap.size ≤ wr.heap.size := HB.out.size
      have hlen := numsTo_le ks k
      by_cases hin : k ∈ ks
      · have hc := HIS.out k wr hlt HB0.out
        rw [decide_eq_true hin] at hc
        have HN := Lib.hid (numsTo_yes hin)
        have HCC := Lib.hid hc; clear hc
        generalize numsTo ks k = l0 at HO HN hlen
        generalize se k = a at e0 HCC
        go_wp2_with fail
        refine HCC.out.mono ?_
        rintro e w2 ⟨rfl, hb2⟩
        have HB2 := Lib.hid hb2; clear hb2
        have hsz2 : wr.heap.size ≤ w2.heap.size := HB2.out.size
        have HO2 := Lib.hid (owns_below HO.out HB2.out)
        go_wp2_with (at_builtin; refine wpList_append_own _ rfl _ _ 40 rfl W0.heap.size 3 i0 (.int .i64 0) 1 8 Tryz.underlying40 hi hz0 hz1 hz2 rfl (by decide) _ _ _ rfl (HO2.out.alloc _) ⟨w2.heap.size, 0, none⟩ 1 1 [intV (k + 1)] rfl rfl (cell_one_new _ _ _) (fun u hu => by simp at hu; subst hu; rfl) (by unfold maxLen; omega) (by omega) (by simp; omega) ?_; intro v' w3 hown3 hg3 hnil3)
        refine ⟨⟨k + 1, by omega, by go_num, ?_, ((HB.out.trans (HB2.out.mono HB.out.size)).alloc (by have := HB.out.size; omega) _).grown hg3 (by have := HB.out.size; simp; omega) (fun g hg => ?_)⟩, by simp [intOf]; omega⟩
        · rw [HN.out]; simpa using hown3
        · exact (HO2.out.lt g hg).1
      · have hc := HIS.out k wr hlt HB0.out
        rw [decide_eq_false hin] at hc
        have HN := Lib.hid (numsTo_no hin)
        have HCC := Lib.hid hc; clear hc
        generalize numsTo ks k = l0 at HO HN hlen
        generalize se k = a at e0 HCC
        go_wp2_with fail
        refine HCC.out.mono ?_
        rintro e w2 ⟨rfl, hb2⟩
        have HB2 := Lib.hid hb2; clear hb2
        have HO2 := Lib.hid (owns_below HO.out HB2.out)
        go_wp2
        refine ⟨⟨k + 1, by omega, by go_num, ?_, HB.out.trans (HB2.out.mono HB.out.size)⟩, by simp [intOf]; omega⟩
        rw [HN.out]; exact HO2.out
    · obtain rfl : k = 16 := by omega
      go_wp2
      go_ret
      exact ⟨_, rfl, owns_mono HO.out (by omega), HB0.out⟩
end Go.Proofs.YtgaaehpmbkjhlaaGreatDoor
