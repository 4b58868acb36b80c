/- spec.Audience. -/
import Derived.Test.YtgaaehpmbkjhlaaGreatDoorWFind
namespace Go.Proofs.YtgaaehpmbkjhlaaGreatDoor
open Go Go.RowKit

set_option maxRecDepth 100000 in
set_option maxHeartbeats 1000000 in
theorem specAud_none (a : Option Addr) (n cap : Nat) (cs : List Cl) (w : World) (hm : CsAt w a n cs) (hf : findC cs AUD = none) : Calls Tryz.prog 10 #[.slice a n cap] w (GivesOwn [] w) := by
  have HM := Lib.hid hm; clear hm
  have HF := Lib.hid hf; clear hf
  go_enter Tryz.func10, Tryz.ntmps10
  go_wp2_with fail
  refine (find_any_no a n cap cs AUD _ (HM.out.below (by go_grown)) HF.out).mono ?_
  rintro e w1 ⟨rfl, hb1⟩
  have hz : w.heap.size + 1 ≤ w1.heap.size := by have := hb1.size; simpa using this
  have HB1 := Lib.hid ((show Below w.heap.size w _ from by go_grown).trans (hb1.mono (by simp)))
  have hown : w1.ownsRow w.heap.size 9 1 (.slice (some ⟨w.heap.size, 0, none⟩) 0 0) 0 [] := owns_below (World.ownsRow_made w #[] 0 (Nat.le_refl _) (by simp) rfl) hb1
  have HO := Lib.hid hown; clear hown hb1
  unfold V.agg zeroV
  go_wp2
  go_ret
  exact ⟨_, rfl, HO.out.alloc _, HB1.out.alloc HB1.out.size _⟩

set_option maxRecDepth 100000 in
set_option maxHeartbeats 1000000 in
theorem specAud_text (a : Option Addr) (n cap : Nat) (cs : List Cl) (w : World) (c : Cl) (hm : CsAt w a n cs) (hd : ∀ i j (h : i < cs.length) (h' : j < cs.length), j < i → cs[i].name ≠ cs[j].name) (hf : findC cs AUD = some c) (hk : c.v.k = 1) :
    Calls Tryz.prog 10 #[.slice a n cap] w (GivesOwn [c.v.t] w) := by
  obtain ⟨i0, hi, hz0, hz1, hz2⟩ := info_parts Tryz.info9
  have HM := Lib.hid hm; clear hm
  have HF := Lib.hid hf; clear hf
  have HD := Lib.hid hd; clear hd
  have HK := Lib.hid hk; clear hk
  go_enter Tryz.func10, Tryz.ntmps10
  go_wp2_with fail
  refine (find_any_yes a n cap cs AUD _ c (HM.out.below (by go_grown)) HD.out HF.out).mono ?_
  rintro e w1 ⟨rfl, hb1⟩
  have hz : w.heap.size + 1 ≤ w1.heap.size := by have := hb1.size; simpa using this
  have HB1 := Lib.hid ((show Below w.heap.size w _ from by go_grown).trans (hb1.mono (by simp)))
  have hown : w1.ownsRow w.heap.size 9 1 (.slice (some ⟨w.heap.size, 0, none⟩) 0 0) 0 [] := owns_below (World.ownsRow_made w #[] 0 (Nat.le_refl _) (by simp) rfl) hb1
  have HO := Lib.hid hown; clear hown hb1
  have hk := HK.out
  clear HM HF HD HK
  obtain ⟨nm, ⟨xk, xt, xn, xa, xl, xc⟩, xs⟩ := c
  simp only at hk
  subst hk
  unfold V.agg
  go_wp2_with (at_builtin; refine wpList_append_own _ rfl _ _ 24 rfl w.heap.size 9 i0 (.string ByteArray.empty) 1 16 Tryz.underlying24 hi hz0 hz1 hz2 rfl (by decide) _ _ _ rfl ((HO.out.alloc _).alloc _) ⟨w1.heap.size + 1, 0, none⟩ 1 1 [.string xt] rfl rfl (by simpa using cell_one_new (w1.alloc (.cells #[.int .i64 1, .string xt, .int .i64 xn, .slice xa xl xc] 27)) (.string xt) 9) (fun u hu => by simp at hu; subst hu; rfl) (by unfold maxLen; omega) (by omega) (by simp; omega) ?_; intro v' w3 hown3 hg3 hnil3)
  go_ret
  exact ⟨_, rfl, hown3, ((HB1.out.alloc HB1.out.size _).alloc (by simp; omega) _).grown hg3 (by simp; omega) (fun g hg => (HO.out.lt g hg).1)⟩

set_option maxRecDepth 100000 in
set_option maxHeartbeats 1000000 in
theorem specAud_list (a : Option Addr) (n cap : Nat) (cs : List Cl) (w : World) (c : Cl) (hm : CsAt w a n cs) (hd : ∀ i j (h : i < cs.length) (h' : j < cs.length), j < i → cs[i].name ≠ cs[j].name) (hf : findC cs AUD = some c) (hk : c.v.k = 4)
    (h1 : 1 ≤ c.v.ln) (h50 : c.v.ln ≤ 50) : Calls Tryz.prog 10 #[.slice a n cap] w (GivesOwn (c.xs.map (·.t)) w) := by
  obtain ⟨i0, hi, hz0, hz1, hz2⟩ := info_parts Tryz.info9
  have hl : VsAt w c.v.la c.v.ln c.xs := by
    obtain ⟨i, hi, rfl, _⟩ := findC_at hf
    obtain ⟨hlen, _, hs⟩ := hm
    obtain ⟨b, o, _, hc⟩ := hs (by omega)
    exact (hc i hi).list
  have HL := Lib.hid hl; clear hl
  have HM := Lib.hid hm; clear hm
  have HF := Lib.hid hf; clear hf
  have HD := Lib.hid hd; clear hd
  have HK := Lib.hid hk; clear hk
  go_enter Tryz.func10, Tryz.ntmps10
  go_wp2_with fail
  refine (find_any_yes a n cap cs AUD _ c (HM.out.below (by go_grown)) HD.out HF.out).mono ?_
  rintro e w1 ⟨rfl, hb1⟩
  have hz : w.heap.size + 1 ≤ w1.heap.size := by have := hb1.size; simpa using this
  have HB1 := Lib.hid ((show Below w.heap.size w _ from by go_grown).trans (hb1.mono (by simp)))
  have hown : w1.ownsRow w.heap.size 9 1 (.slice (some ⟨w.heap.size, 0, none⟩) 0 0) 0 [] := owns_below (World.ownsRow_made w #[] 0 (Nat.le_refl _) (by simp) rfl) hb1
  have HO := Lib.hid hown; clear hown hb1
  have hk := HK.out
  have hl := HL.out
  clear HM HF HD HK HL
  obtain ⟨nm, ⟨xk, xt, xn, xa, xl, xc⟩, xs⟩ := c
  simp only at hk hl h1 h50
  subst hk
  obtain ⟨hlen, _, hcc⟩ := hl
  obtain ⟨b, o, rfl, hc⟩ := hcc (by omega)
  clear hcc
  have HC := Lib.hid hc; clear hc
  have HLEN := Lib.hid hlen; clear hlen
  unfold V.agg
  simp only
  go_wp2
  go_loopw [3, 28] (fun l i wr => ∃ k : Nat, k ≤ xl ∧ i = .int .i64 k ∧ wr.ownsRow w.heap.size 9 1 l k (((xs.map (·.t)).map Value.string).take k) ∧ Below w.heap.size w wr) (fun _ i _ => xl - (intOf i).toNat)
  case atStart => exact ⟨0, Nat.zero_le _, rfl, HO.out.alloc _, HB1.out.alloc HB1.out.size _⟩
  case round =>
    obtain ⟨k, hk, rfl, hown, hb⟩ := hrel
    have HB := Lib.hid hb; clear hb
    by_cases hlt : k < xl
    · have hk' : k < xs.length := by rw [HLEN.out]; exact hlt
      have hv := (HC.out k hk').below HB.out
      have htake : ((xs.map (·.t)).map Value.string).take (k + 1) = ((xs.map (·.t)).map Value.string).take k ++ [.string xs[k].t] := by rw [List.take_succ_eq_append_getElem (by simpa using hk')]; simp
      obtain ⟨x, hx⟩ : ∃ x, x = xs[k] := ⟨_, rfl⟩
      rw [← hx] at hv htake
      clear hx
      obtain ⟨yk, yt, yn, ya, yl, yc⟩ := x
      obtain ⟨v0, v1, v2, v3, vb⟩ := hv
      simp only at v0 v1 v2 v3 htake
      have HT := Lib.hid htake; clear htake
      have HOW := Lib.hid hown; clear hown
      have hszr : w.heap.size ≤ wr.heap.size := HB.out.size
      go_wp2_with (at_builtin; refine wpList_append_own _ rfl _ _ 24 rfl w.heap.size 9 i0 (.string ByteArray.empty) 1 16 Tryz.underlying24 hi hz0 hz1 hz2 rfl (by decide) _ _ _ rfl ((HOW.out.alloc _).alloc _) ⟨wr.heap.size + 1, 0, none⟩ 1 1 [.string yt] rfl rfl (by simpa using cell_one_new (wr.alloc (.cells #[.int .i64 yk, .string yt, .int .i64 yn, .slice ya yl yc] 27)) (.string yt) 9) (fun u hu => by simp at hu; subst hu; rfl) (by unfold maxLen; omega) (by omega) (by simp; omega) ?_; intro v' w3 hown3 hg3 hnil3)
      refine ⟨⟨k + 1, by omega, by go_num, by rw [HT.out]; exact hown3, ((HB.out.alloc HB.out.size _).alloc (by simp; omega) _).grown hg3 (by simp; omega) (fun g hg => (HOW.out.lt g hg).1)⟩, by simp [intOf]; omega⟩
    · obtain rfl : k = xl := by omega
      go_wp2
      go_ret
      refine ⟨_, rfl, ?_, HB.out⟩
      have hl : (xs.map (·.t)).length = k := by rw [List.length_map]; exact HLEN.out
      rw [List.take_of_length_le (by rw [List.length_map]; omega)] at hown
      rw [hl]
      exact hown
end Go.Proofs.YtgaaehpmbkjhlaaGreatDoor
